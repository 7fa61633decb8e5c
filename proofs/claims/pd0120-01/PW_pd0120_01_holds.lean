import PyProof.Rows.All
import Wide.All
import OpenK.AllK
import Wide.FinOn
import Lean
import PySem.Challenge.RW_pd0120_01
set_option Elab.async false
set_option maxRecDepth 100000
set_option maxHeartbeats 0
set_option pp.deepTerms false
set_option pp.proofs false
namespace Mine
def blk : PySem.Str := PySem.Str.ofString "q"
theorem blk_eq : blk = blk := rfl
end Mine
name_quick tw16769736036372034035 for Mine.blk by Mine.blk_eq
name_quick tw8075568018651887793 for Mine.blk by Mine.blk_eq
name_quick tw1355006720036999339 for Mine.blk by Mine.blk_eq
name_quick tw1293189991804570083 for Mine.blk by Mine.blk_eq
name_quick tw16616699407766980992 for Mine.blk by Mine.blk_eq
name_quick tw13003757496596434711 for Mine.blk by Mine.blk_eq
name_quick tw14442551536049903452 for Mine.blk by Mine.blk_eq
name_quick tw16755545493482575116 for Mine.blk by Mine.blk_eq
name_quick tw14063116087681242162 for Mine.blk by Mine.blk_eq
name_quick tw1192929994404124609 for Mine.blk by Mine.blk_eq
name_quick tw14979626087600564940 for Mine.blk by Mine.blk_eq
name_quick tw411341824665146567 for Mine.blk by Mine.blk_eq
name_quick tw16770459766345991936 for Mine.blk by Mine.blk_eq
name_quick tw809538670930214114 for Mine.blk by Mine.blk_eq
name_quick tw1938699423046993634 for Mine.blk by Mine.blk_eq
name_quick tw11346108149598046533 for Mine.blk by Mine.blk_eq
name_quick tw7969666803414932050 for Mine.blk by Mine.blk_eq
name_quick tw9518460778924858168 for Mine.blk by Mine.blk_eq
name_quick tw8746881922916998993 for Mine.blk by Mine.blk_eq
name_quick tw17522200706408893777 for Mine.blk by Mine.blk_eq
name_quick tw4615046776614313329 for Mine.blk by Mine.blk_eq
name_quick tw17670748351770081879 for Mine.blk by Mine.blk_eq
name_quick tw7731394104533254306 for Mine.blk by Mine.blk_eq
name_quick tw1460277438893781036 for Mine.blk by Mine.blk_eq
name_quick tw4173924237407464957 for Mine.blk by Mine.blk_eq
name_quick tw17336000867468585007 for Mine.blk by Mine.blk_eq
name_quick tw14849074081364681749 for Mine.blk by Mine.blk_eq
name_quick tw10359429545022499762 for Mine.blk by Mine.blk_eq
name_quick tw11886712299990487620 for Mine.blk by Mine.blk_eq
name_quick tw16059099677497325080 for Mine.blk by Mine.blk_eq
name_quick tw9910355351051955638 for Mine.blk by Mine.blk_eq
name_quick tw7808205228206232076 for Mine.blk by Mine.blk_eq
name_quick tw15263041282635125899 for Mine.blk by Mine.blk_eq
name_quick tw14391268981414578426 for Mine.blk by Mine.blk_eq
name_quick tw9339011207650244144 for Mine.blk by Mine.blk_eq
name_quick tw5998781340512891400 for Mine.blk by Mine.blk_eq
name_quick tw13424232207471783386 for Mine.blk by Mine.blk_eq
name_quick tw11939915149646268982 for Mine.blk by Mine.blk_eq
name_quick tw10422997342228622526 for Mine.blk by Mine.blk_eq
name_quick tw1944293319124727847 for Mine.blk by Mine.blk_eq
name_quick tw11328821685186248670 for Mine.blk by Mine.blk_eq
name_quick tw3325841961599345399 for Mine.blk by Mine.blk_eq
name_quick tw563124612126607214 for Mine.blk by Mine.blk_eq
name_quick tw2759451637364818457 for Mine.blk by Mine.blk_eq
name_quick tw9575948337506731703 for Mine.blk by Mine.blk_eq
name_quick tw11277716924127702174 for Mine.blk by Mine.blk_eq
name_quick tw12945451867199242903 for Mine.blk by Mine.blk_eq
name_quick tw8719427161674164953 for Mine.blk by Mine.blk_eq
name_quick tw9236379625843700516 for Mine.blk by Mine.blk_eq
name_quick tw4658958612460137192 for Mine.blk by Mine.blk_eq
name_quick tw11445135464325071761 for Mine.blk by Mine.blk_eq
name_quick tw16792545251062261874 for Mine.blk by Mine.blk_eq
name_quick tw1481926694345511941 for Mine.blk by Mine.blk_eq
name_quick tw14427280190107063356 for Mine.blk by Mine.blk_eq
name_quick tw11788150170368784547 for Mine.blk by Mine.blk_eq
name_quick tw8656719876789144132 for Mine.blk by Mine.blk_eq
name_quick tw9763268239775435451 for Mine.blk by Mine.blk_eq
name_quick tw17991947082810275242 for Mine.blk by Mine.blk_eq
name_quick tw17069979004554194336 for Mine.blk by Mine.blk_eq
name_quick tw16427306112580772713 for Mine.blk by Mine.blk_eq
name_quick tw771018646841630093 for Mine.blk by Mine.blk_eq
name_quick tw5409283761738284092 for Mine.blk by Mine.blk_eq
name_quick tw6182678533730793537 for Mine.blk by Mine.blk_eq
name_quick tw4071324889030633612 for Mine.blk by Mine.blk_eq
name_quick tw14386061602966655976 for Mine.blk by Mine.blk_eq
name_quick tw4600395469775339435 for Mine.blk by Mine.blk_eq
name_quick tw15480198773659482676 for Mine.blk by Mine.blk_eq
name_quick tw9455686188066324210 for Mine.blk by Mine.blk_eq
name_quick tw15078596067121957158 for Mine.blk by Mine.blk_eq
name_quick tw16243683426749602078 for Mine.blk by Mine.blk_eq
name_quick tw10508251915553800215 for Mine.blk by Mine.blk_eq
name_quick tw17768419659990539469 for Mine.blk by Mine.blk_eq
name_quick tw1068659041996821342 for Mine.blk by Mine.blk_eq
name_quick tw9413167413068371254 for Mine.blk by Mine.blk_eq
name_quick tw178441218286455893 for Mine.blk by Mine.blk_eq
name_quick tw18263319221461684349 for Mine.blk by Mine.blk_eq
name_quick tw503676674663206642 for Mine.blk by Mine.blk_eq
name_quick tw8389248881573145916 for Mine.blk by Mine.blk_eq
name_quick tw12436211924289087317 for Mine.blk by Mine.blk_eq
name_quick tw13987355940573415152 for Mine.blk by Mine.blk_eq
name_quick tw13358618909089187005 for Mine.blk by Mine.blk_eq
name_quick tw15423634916342008072 for Mine.blk by Mine.blk_eq
name_quick tw9315938663221665524 for Mine.blk by Mine.blk_eq
name_quick tw4527066259768149269 for Mine.blk by Mine.blk_eq
name_quick tw15560853006256673968 for Mine.blk by Mine.blk_eq
name_quick tw6213697211615256494 for Mine.blk by Mine.blk_eq
name_quick tw17497748084772794779 for Mine.blk by Mine.blk_eq
name_quick tw3619232141914619222 for Mine.blk by Mine.blk_eq
name_quick tw17335170898614401699 for Mine.blk by Mine.blk_eq
name_quick tw15190520802936310887 for Mine.blk by Mine.blk_eq
name_quick tw6636956529411117187 for Mine.blk by Mine.blk_eq
name_quick tw17238727255148662236 for Mine.blk by Mine.blk_eq
name_quick tw5565278806992967083 for Mine.blk by Mine.blk_eq
name_quick tw14223099787259518943 for Mine.blk by Mine.blk_eq
name_quick tw3118938333895590913 for Mine.blk by Mine.blk_eq
name_quick tw1257650718994608863 for Mine.blk by Mine.blk_eq
name_quick tw6284913977507520645 for Mine.blk by Mine.blk_eq
name_quick tw13314330512976039754 for Mine.blk by Mine.blk_eq
name_quick tw10573317284883567450 for Mine.blk by Mine.blk_eq
name_quick tw13254397897704925713 for Mine.blk by Mine.blk_eq
name_quick tw17300597898927385350 for Mine.blk by Mine.blk_eq
name_quick tw13749758060653150092 for Mine.blk by Mine.blk_eq
name_quick tw17803129079492736432 for Mine.blk by Mine.blk_eq
name_quick tw9948023125614773506 for Mine.blk by Mine.blk_eq
name_quick tw12071057409057901078 for Mine.blk by Mine.blk_eq
name_quick tw7258234576362860186 for Mine.blk by Mine.blk_eq
name_quick tw14185684948912167051 for Mine.blk by Mine.blk_eq
name_quick tw117213463901210413 for Mine.blk by Mine.blk_eq
name_quick tw709596357894409271 for Mine.blk by Mine.blk_eq
name_quick tw18340240734955500558 for Mine.blk by Mine.blk_eq
name_quick tw4636218855388986860 for Mine.blk by Mine.blk_eq
name_quick tw13902060940116135572 for Mine.blk by Mine.blk_eq
name_quick tw11433066937589102482 for Mine.blk by Mine.blk_eq
name_quick tw13170769719875646287 for Mine.blk by Mine.blk_eq
name_quick tw10497336368680011964 for Mine.blk by Mine.blk_eq
name_quick tw9993286163216442774 for Mine.blk by Mine.blk_eq
name_quick tw487364732245791922 for Mine.blk by Mine.blk_eq
name_quick tw13451486832001684981 for Mine.blk by Mine.blk_eq
name_quick tw14278799554742785266 for Mine.blk by Mine.blk_eq
name_quick tw10014077866858391930 for Mine.blk by Mine.blk_eq
name_quick tw13607416678640721797 for Mine.blk by Mine.blk_eq
name_quick tw3865406201487662470 for Mine.blk by Mine.blk_eq
name_quick tw16658944759067139292 for Mine.blk by Mine.blk_eq
name_quick tw10598567329377039032 for Mine.blk by Mine.blk_eq
name_quick tw13549102714576105579 for Mine.blk by Mine.blk_eq
name_quick tw3094477031063562474 for Mine.blk by Mine.blk_eq
name_quick tw10948738476641704880 for Mine.blk by Mine.blk_eq
name_quick tw2627984346626558326 for Mine.blk by Mine.blk_eq
name_quick tw5032809538720368765 for Mine.blk by Mine.blk_eq
name_quick tw16789607257665165339 for Mine.blk by Mine.blk_eq
name_quick tw9292931687148149277 for Mine.blk by Mine.blk_eq
name_quick tw9734738408750631477 for Mine.blk by Mine.blk_eq
name_quick tw14326252917377295143 for Mine.blk by Mine.blk_eq
name_quick tw17244072584429378644 for Mine.blk by Mine.blk_eq
name_quick tw12225727855978595839 for Mine.blk by Mine.blk_eq
name_quick tw1377046205977697930 for Mine.blk by Mine.blk_eq
name_quick tw16458521907211103643 for Mine.blk by Mine.blk_eq
name_quick tw3069475018656635626 for Mine.blk by Mine.blk_eq
name_quick tw4989861115921178866 for Mine.blk by Mine.blk_eq
name_quick tw2708708594114744775 for Mine.blk by Mine.blk_eq
name_quick tw15432132100017774171 for Mine.blk by Mine.blk_eq
name_quick tw9743207683681685546 for Mine.blk by Mine.blk_eq
name_quick tw5617225775520620512 for Mine.blk by Mine.blk_eq
name_quick tw8376441433122354887 for Mine.blk by Mine.blk_eq
name_quick tw734433811878042982 for Mine.blk by Mine.blk_eq
name_quick tw11525573260007124812 for Mine.blk by Mine.blk_eq
name_quick tw16444073730201381095 for Mine.blk by Mine.blk_eq
name_quick tw10227693086864044499 for Mine.blk by Mine.blk_eq
name_quick tw1291980286583624508 for Mine.blk by Mine.blk_eq
name_quick tw1620339239838986703 for Mine.blk by Mine.blk_eq
name_quick tw13236226663087606529 for Mine.blk by Mine.blk_eq
name_quick tw894076849921957361 for Mine.blk by Mine.blk_eq
name_quick tw7458669417513538434 for Mine.blk by Mine.blk_eq
name_quick tw11363912090873407280 for Mine.blk by Mine.blk_eq
name_quick tw16643706677886111943 for Mine.blk by Mine.blk_eq
name_quick tw10996506086634736982 for Mine.blk by Mine.blk_eq
name_quick tw4187477659947935285 for Mine.blk by Mine.blk_eq
name_quick tw3353693220867276294 for Mine.blk by Mine.blk_eq
name_quick tw6142071019320080357 for Mine.blk by Mine.blk_eq
name_quick tw6426273055680023932 for Mine.blk by Mine.blk_eq
name_quick tw441327347791068078 for Mine.blk by Mine.blk_eq
name_quick tw4817316660788777376 for Mine.blk by Mine.blk_eq
name_quick tw11171608375663816178 for Mine.blk by Mine.blk_eq
name_quick tw937105155873367277 for Mine.blk by Mine.blk_eq
name_quick tw13342524657329470049 for Mine.blk by Mine.blk_eq
name_quick tw17532440430192770315 for Mine.blk by Mine.blk_eq
name_quick tw2315820567201803617 for Mine.blk by Mine.blk_eq
name_quick tw11211347477262721435 for Mine.blk by Mine.blk_eq
name_quick tw7733015712792483723 for Mine.blk by Mine.blk_eq
name_quick tw17888162413812561239 for Mine.blk by Mine.blk_eq
name_quick tw2735471455948067141 for Mine.blk by Mine.blk_eq
name_quick tw10619036274816975696 for Mine.blk by Mine.blk_eq
name_quick tw14096952598973939363 for Mine.blk by Mine.blk_eq
name_quick tw11729385059970357855 for Mine.blk by Mine.blk_eq
name_quick tw17041471163203698717 for Mine.blk by Mine.blk_eq
name_quick tw16835247145936305501 for Mine.blk by Mine.blk_eq
name_quick tw5857867401354281197 for Mine.blk by Mine.blk_eq
name_quick tw17532718790514356516 for Mine.blk by Mine.blk_eq
name_quick tw5925582254088234700 for Mine.blk by Mine.blk_eq
name_quick tw4525517667737911620 for Mine.blk by Mine.blk_eq
name_quick tw6733733256287894996 for Mine.blk by Mine.blk_eq
name_quick tw13195905796856590283 for Mine.blk by Mine.blk_eq
name_quick tw13262538273218963204 for Mine.blk by Mine.blk_eq
name_quick tw4724670654266164199 for Mine.blk by Mine.blk_eq
name_quick tw12828332729040242785 for Mine.blk by Mine.blk_eq
name_quick tw12025208970609079342 for Mine.blk by Mine.blk_eq
name_quick tw16904869804480856166 for Mine.blk by Mine.blk_eq
name_quick tw790365300219607850 for Mine.blk by Mine.blk_eq
name_quick tw931183843429516998 for Mine.blk by Mine.blk_eq
name_quick tw1278341880987251545 for Mine.blk by Mine.blk_eq
name_quick tw14909702598903578594 for Mine.blk by Mine.blk_eq
name_quick tw18428756778242999024 for Mine.blk by Mine.blk_eq
name_quick tw7365555872484859036 for Mine.blk by Mine.blk_eq
name_quick tw6059929106960060952 for Mine.blk by Mine.blk_eq
name_quick tw8588708647495961459 for Mine.blk by Mine.blk_eq
name_quick tw4716499452693333712 for Mine.blk by Mine.blk_eq
name_quick tw17431367730909923944 for Mine.blk by Mine.blk_eq
name_quick tw12513138341781932208 for Mine.blk by Mine.blk_eq
name_quick tw7670514497116975361 for Mine.blk by Mine.blk_eq
name_quick tw13002492023102617099 for Mine.blk by Mine.blk_eq
name_quick tw4748654258956052638 for Mine.blk by Mine.blk_eq
name_quick tw148260917463534702 for Mine.blk by Mine.blk_eq
name_quick tw6614585292965373069 for Mine.blk by Mine.blk_eq
name_quick tw11055029398406535253 for Mine.blk by Mine.blk_eq
name_quick tw2334299552400917057 for Mine.blk by Mine.blk_eq
name_quick tw6057444674265745922 for Mine.blk by Mine.blk_eq
name_quick tw10323968676351773119 for Mine.blk by Mine.blk_eq
name_quick tw12913785700363492387 for Mine.blk by Mine.blk_eq
name_quick tw14200474593977847096 for Mine.blk by Mine.blk_eq
name_quick tw1306790839584632651 for Mine.blk by Mine.blk_eq
name_quick tw15020028541594565831 for Mine.blk by Mine.blk_eq
name_quick tw618205885557783147 for Mine.blk by Mine.blk_eq
name_quick tw10073347824450446311 for Mine.blk by Mine.blk_eq
name_quick tw9908251947323293946 for Mine.blk by Mine.blk_eq
name_quick tw3797612339304411714 for Mine.blk by Mine.blk_eq
name_quick tw2354135333415324597 for Mine.blk by Mine.blk_eq
name_quick tw8620020772036689432 for Mine.blk by Mine.blk_eq
name_quick tw17528258088376854630 for Mine.blk by Mine.blk_eq
name_quick tw10942035263794033107 for Mine.blk by Mine.blk_eq
name_quick tw4768464013462379552 for Mine.blk by Mine.blk_eq
name_quick tw12599741558188205749 for Mine.blk by Mine.blk_eq
name_quick tw10749366882036047329 for Mine.blk by Mine.blk_eq
name_quick tw17728961539438068574 for Mine.blk by Mine.blk_eq
name_quick tw9092590503495048627 for Mine.blk by Mine.blk_eq
name_quick tw682011567655089306 for Mine.blk by Mine.blk_eq
name_quick tw17230556039016184743 for Mine.blk by Mine.blk_eq
name_quick tw6380047634161181297 for Mine.blk by Mine.blk_eq
name_quick tw8400853705098224536 for Mine.blk by Mine.blk_eq
name_quick tw1503297043503765363 for Mine.blk by Mine.blk_eq
name_quick tw17370054149142409183 for Mine.blk by Mine.blk_eq
name_quick tw13251646731365433171 for Mine.blk by Mine.blk_eq
name_quick tw2322887356643228942 for Mine.blk by Mine.blk_eq
name_quick tw10730351240561388922 for Mine.blk by Mine.blk_eq
name_quick tw13949143374315933397 for Mine.blk by Mine.blk_eq
name_quick tw3362959441861295915 for Mine.blk by Mine.blk_eq
name_quick tw10964334890339321822 for Mine.blk by Mine.blk_eq
name_quick tw2088498060469179804 for Mine.blk by Mine.blk_eq
name_quick tw17394056326795013819 for Mine.blk by Mine.blk_eq
name_quick tw13427988762788590312 for Mine.blk by Mine.blk_eq
name_quick tw2883484788219351825 for Mine.blk by Mine.blk_eq
name_quick tw1136578752053086225 for Mine.blk by Mine.blk_eq
name_quick tw5881240552750758400 for Mine.blk by Mine.blk_eq
name_quick tw13853819408611901635 for Mine.blk by Mine.blk_eq
name_quick tw12674565591061545060 for Mine.blk by Mine.blk_eq
name_quick tw8902219603052485911 for Mine.blk by Mine.blk_eq
name_quick tw10589684114461592954 for Mine.blk by Mine.blk_eq
name_quick tw13036272033356848781 for Mine.blk by Mine.blk_eq
name_quick tw17927924199439509659 for Mine.blk by Mine.blk_eq
name_quick tw6913438882417360052 for Mine.blk by Mine.blk_eq
name_quick tw16947794391021106201 for Mine.blk by Mine.blk_eq
name_quick tw3433653886696886423 for Mine.blk by Mine.blk_eq
name_quick tw16349804527192203551 for Mine.blk by Mine.blk_eq
name_quick tw18260038339965228139 for Mine.blk by Mine.blk_eq
name_quick tw12989987162080215863 for Mine.blk by Mine.blk_eq
name_quick tw7745614565497352828 for Mine.blk by Mine.blk_eq
name_quick tw17000155066101142889 for Mine.blk by Mine.blk_eq
name_quick tw5310036984924271277 for Mine.blk by Mine.blk_eq
name_quick tw6434265647005701932 for Mine.blk by Mine.blk_eq
name_quick tw17027947056734134637 for Mine.blk by Mine.blk_eq
name_quick tw3736136724727406031 for Mine.blk by Mine.blk_eq
name_quick tw9800571698397750058 for Mine.blk by Mine.blk_eq
name_quick tw460243522976405022 for Mine.blk by Mine.blk_eq
name_quick tw11882390891050353253 for Mine.blk by Mine.blk_eq
name_quick tw11236458984494512445 for Mine.blk by Mine.blk_eq
name_quick tw6127375697748050860 for Mine.blk by Mine.blk_eq
name_quick tw18283703058932287227 for Mine.blk by Mine.blk_eq
name_quick tw11790162104776037713 for Mine.blk by Mine.blk_eq
name_quick tw5555313912996828296 for Mine.blk by Mine.blk_eq
name_quick tw1267870562809915468 for Mine.blk by Mine.blk_eq
name_quick tw18034167525097398909 for Mine.blk by Mine.blk_eq
name_quick tw14210447440969649564 for Mine.blk by Mine.blk_eq
name_quick tw15250204685079549951 for Mine.blk by Mine.blk_eq
name_quick tw5268983451555188008 for Mine.blk by Mine.blk_eq
name_quick tw17993156020533580102 for Mine.blk by Mine.blk_eq
name_quick tw4504083675297759592 for Mine.blk by Mine.blk_eq
name_quick tw8703263022893421829 for Mine.blk by Mine.blk_eq
name_quick tw12731603968600162155 for Mine.blk by Mine.blk_eq
name_quick tw16979880578912567463 for Mine.blk by Mine.blk_eq
name_quick tw18410474027866654770 for Mine.blk by Mine.blk_eq
name_quick tw830924265138556478 for Mine.blk by Mine.blk_eq
name_quick tw8946543629884556368 for Mine.blk by Mine.blk_eq
name_quick tw17672482021469178181 for Mine.blk by Mine.blk_eq
name_quick tw1708024556718086227 for Mine.blk by Mine.blk_eq
name_quick tw4800724452203346748 for Mine.blk by Mine.blk_eq
name_quick tw18273839248471157720 for Mine.blk by Mine.blk_eq
name_quick tw5854881644878751223 for Mine.blk by Mine.blk_eq
name_quick tw1414301608579184545 for Mine.blk by Mine.blk_eq
name_quick tw3267979357774110234 for Mine.blk by Mine.blk_eq
name_quick tw12756110868346105713 for Mine.blk by Mine.blk_eq
name_quick tw12488000419048109807 for Mine.blk by Mine.blk_eq
name_quick tw10045867985992453528 for Mine.blk by Mine.blk_eq
name_quick tw7035115661146626270 for Mine.blk by Mine.blk_eq
name_quick tw2719445374943340272 for Mine.blk by Mine.blk_eq
name_quick tw11625766737575182897 for Mine.blk by Mine.blk_eq
name_quick tw2110851967338885185 for Mine.blk by Mine.blk_eq
name_quick tw6711915476519705758 for Mine.blk by Mine.blk_eq
name_quick tw2165606593764840688 for Mine.blk by Mine.blk_eq
name_quick tw16460519517873343938 for Mine.blk by Mine.blk_eq
name_quick tw17024950926791866790 for Mine.blk by Mine.blk_eq
name_quick tw4091194055036891139 for Mine.blk by Mine.blk_eq
name_quick tw1402947280878808549 for Mine.blk by Mine.blk_eq
name_quick tw16018607276475445134 for Mine.blk by Mine.blk_eq
name_quick tw2902314222560053993 for Mine.blk by Mine.blk_eq
name_quick tw12981051755390344553 for Mine.blk by Mine.blk_eq
name_quick tw4275521005467322725 for Mine.blk by Mine.blk_eq
name_quick tw15894407043143930727 for Mine.blk by Mine.blk_eq
name_quick tw2637321087531721449 for Mine.blk by Mine.blk_eq
name_quick tw774047393022817027 for Mine.blk by Mine.blk_eq
name_quick tw4691851695120001716 for Mine.blk by Mine.blk_eq
name_quick tw12813236842856870187 for Mine.blk by Mine.blk_eq
name_quick tw8708707556590381134 for Mine.blk by Mine.blk_eq
name_quick tw12726346659333912481 for Mine.blk by Mine.blk_eq
name_quick tw1379578315556383370 for Mine.blk by Mine.blk_eq
name_quick tw11566699232636054958 for Mine.blk by Mine.blk_eq
name_quick tw14073706353221006472 for Mine.blk by Mine.blk_eq
name_quick tw8473563963867554017 for Mine.blk by Mine.blk_eq
name_quick tw13252181687094117063 for Mine.blk by Mine.blk_eq
name_quick tw8802822988693486460 for Mine.blk by Mine.blk_eq
name_quick tw8164371507598914237 for Mine.blk by Mine.blk_eq
name_quick tw16172117957621229858 for Mine.blk by Mine.blk_eq
name_quick tw12898947447245864913 for Mine.blk by Mine.blk_eq
name_quick tw16127339712140622707 for Mine.blk by Mine.blk_eq
name_quick tw1258717718454355964 for Mine.blk by Mine.blk_eq
name_quick tw1320183511955256522 for Mine.blk by Mine.blk_eq
name_quick tw9285146279643344392 for Mine.blk by Mine.blk_eq
name_quick tw4745058802850807175 for Mine.blk by Mine.blk_eq
name_quick tw4287028408620065468 for Mine.blk by Mine.blk_eq
name_quick tw7431591544816029494 for Mine.blk by Mine.blk_eq
name_quick tw13951202360752479828 for Mine.blk by Mine.blk_eq
name_quick tw8488268690174267210 for Mine.blk by Mine.blk_eq
name_quick tw17344680358763864322 for Mine.blk by Mine.blk_eq
name_quick tw7574553109774388169 for Mine.blk by Mine.blk_eq
name_quick tw11786184479649081736 for Mine.blk by Mine.blk_eq
name_quick tw5127043949985792152 for Mine.blk by Mine.blk_eq
name_quick tw4888971946704870899 for Mine.blk by Mine.blk_eq
name_quick tw17476080006546285661 for Mine.blk by Mine.blk_eq
name_quick tw14333388528381170442 for Mine.blk by Mine.blk_eq
name_quick tw1574873078441994576 for Mine.blk by Mine.blk_eq
name_quick tw4904739604578439355 for Mine.blk by Mine.blk_eq
name_quick tw3229698128091672885 for Mine.blk by Mine.blk_eq
name_quick tw9759809726879904816 for Mine.blk by Mine.blk_eq
name_quick tw12835720964997663042 for Mine.blk by Mine.blk_eq
name_quick tw11130039905162102590 for Mine.blk by Mine.blk_eq
name_quick tw16434552024888161954 for Mine.blk by Mine.blk_eq
name_quick tw13121200027793486533 for Mine.blk by Mine.blk_eq
name_quick tw5832503352825792928 for Mine.blk by Mine.blk_eq
name_quick tw10970087489707964778 for Mine.blk by Mine.blk_eq
name_quick tw15917270771655136656 for Mine.blk by Mine.blk_eq
name_quick tw1375587502874563802 for Mine.blk by Mine.blk_eq
name_quick tw7619357645376055252 for Mine.blk by Mine.blk_eq
name_quick tw3826639566459466600 for Mine.blk by Mine.blk_eq
name_quick tw4407734736301137906 for Mine.blk by Mine.blk_eq
name_quick tw347637069881736656 for Mine.blk by Mine.blk_eq
name_quick tw7232422423428716515 for Mine.blk by Mine.blk_eq
name_quick tw10939839348159177617 for Mine.blk by Mine.blk_eq
name_quick tw10138199336372458610 for Mine.blk by Mine.blk_eq
name_quick tw11270796479367742343 for Mine.blk by Mine.blk_eq
name_quick tw14209830616999942402 for Mine.blk by Mine.blk_eq
name_quick tw6123655918767846522 for Mine.blk by Mine.blk_eq
name_quick tw18188234029961486008 for Mine.blk by Mine.blk_eq
name_quick tw17172517015917474193 for Mine.blk by Mine.blk_eq
name_quick tw10030586065758793078 for Mine.blk by Mine.blk_eq
name_quick tw17233024954070867409 for Mine.blk by Mine.blk_eq
name_quick tw15039117976438264115 for Mine.blk by Mine.blk_eq
name_quick tw4299136966843209011 for Mine.blk by Mine.blk_eq
name_quick tw9267298106668617725 for Mine.blk by Mine.blk_eq
name_quick tw11796506867022685745 for Mine.blk by Mine.blk_eq
name_quick tw11543483234476862875 for Mine.blk by Mine.blk_eq
name_quick tw16326889199254633757 for Mine.blk by Mine.blk_eq
name_quick tw7785048605280242668 for Mine.blk by Mine.blk_eq
name_quick tw2569364866550412066 for Mine.blk by Mine.blk_eq
name_quick tw930746551332336609 for Mine.blk by Mine.blk_eq
name_quick tw1041845030581493396 for Mine.blk by Mine.blk_eq
name_quick tw16873187988247708562 for Mine.blk by Mine.blk_eq
name_quick tw12660628722211587041 for Mine.blk by Mine.blk_eq
name_quick tw2674190319118857908 for Mine.blk by Mine.blk_eq
name_quick tw39160002569200845 for Mine.blk by Mine.blk_eq
name_quick tw8621552478659558853 for Mine.blk by Mine.blk_eq
name_quick tw2001226814458364393 for Mine.blk by Mine.blk_eq
name_quick tw14112274594779413971 for Mine.blk by Mine.blk_eq
name_quick tw16752143609539240740 for Mine.blk by Mine.blk_eq
name_quick tw14159497744377131790 for Mine.blk by Mine.blk_eq
name_quick tw12832477231654346042 for Mine.blk by Mine.blk_eq
name_quick tw10500077913531017323 for Mine.blk by Mine.blk_eq
name_quick tw9917628215930124269 for Mine.blk by Mine.blk_eq
name_quick tw1536587703002861866 for Mine.blk by Mine.blk_eq
name_quick tw13650077344797733491 for Mine.blk by Mine.blk_eq
name_quick tw470574548607681690 for Mine.blk by Mine.blk_eq
name_quick tw5770868932273138760 for Mine.blk by Mine.blk_eq
name_quick tw4978915544186085027 for Mine.blk by Mine.blk_eq
name_quick tw2611137233208623240 for Mine.blk by Mine.blk_eq
name_quick tw18286265847491885052 for Mine.blk by Mine.blk_eq
name_quick tw1638017585896720355 for Mine.blk by Mine.blk_eq
name_quick tw7667257122694350696 for Mine.blk by Mine.blk_eq
name_quick tw6245536207120538393 for Mine.blk by Mine.blk_eq
name_quick tw8058433561772132124 for Mine.blk by Mine.blk_eq
name_quick tw15363015567059481735 for Mine.blk by Mine.blk_eq
name_quick tw610167625130883901 for Mine.blk by Mine.blk_eq
name_quick tw16166484699277107406 for Mine.blk by Mine.blk_eq
name_quick tw1410096668721982599 for Mine.blk by Mine.blk_eq
name_quick tw15079194523842364033 for Mine.blk by Mine.blk_eq
name_quick tw13775618736486673144 for Mine.blk by Mine.blk_eq
name_quick tw8047484207015712433 for Mine.blk by Mine.blk_eq
name_quick tw17057272898397164401 for Mine.blk by Mine.blk_eq
name_quick tw7313295853046975944 for Mine.blk by Mine.blk_eq
name_quick tw2177526886768309524 for Mine.blk by Mine.blk_eq
name_quick tw7721631327575515661 for Mine.blk by Mine.blk_eq
name_quick tw10650810973499830745 for Mine.blk by Mine.blk_eq
name_quick tw6679490504615227074 for Mine.blk by Mine.blk_eq
name_quick tw1218959903707654005 for Mine.blk by Mine.blk_eq
name_quick tw7057405563618977329 for Mine.blk by Mine.blk_eq
name_quick tw3373567504368509048 for Mine.blk by Mine.blk_eq
name_quick tw3636048126100218174 for Mine.blk by Mine.blk_eq
name_quick tw11985326045990495214 for Mine.blk by Mine.blk_eq
name_quick tw13505292571300825877 for Mine.blk by Mine.blk_eq
name_quick tw9594665118957945026 for Mine.blk by Mine.blk_eq
name_quick tw16817318245366136608 for Mine.blk by Mine.blk_eq
name_quick tw10146832411891806045 for Mine.blk by Mine.blk_eq
name_quick tw6722154040420286063 for Mine.blk by Mine.blk_eq
name_quick tw482417222145425773 for Mine.blk by Mine.blk_eq
name_quick tw8253183596043897158 for Mine.blk by Mine.blk_eq
name_quick tw8881496252177385917 for Mine.blk by Mine.blk_eq
name_quick tw17026713947507217902 for Mine.blk by Mine.blk_eq
name_quick tw13329733208086693882 for Mine.blk by Mine.blk_eq
name_quick tw5721027456603625697 for Mine.blk by Mine.blk_eq
name_quick tw15224661121926592747 for Mine.blk by Mine.blk_eq
name_quick tw4879560196417449868 for Mine.blk by Mine.blk_eq
name_quick tw7393211689510517793 for Mine.blk by Mine.blk_eq
name_quick tw7229665172594901996 for Mine.blk by Mine.blk_eq
name_quick tw11108263761283441063 for Mine.blk by Mine.blk_eq
name_quick tw3395616883899927064 for Mine.blk by Mine.blk_eq
name_quick tw15902184279288820625 for Mine.blk by Mine.blk_eq
name_quick tw10314498396905981064 for Mine.blk by Mine.blk_eq
name_quick tw3577408171920636059 for Mine.blk by Mine.blk_eq
name_quick tw18163708392712065173 for Mine.blk by Mine.blk_eq
name_quick tw6841013123486265825 for Mine.blk by Mine.blk_eq
name_quick tw17138261911001417010 for Mine.blk by Mine.blk_eq
name_quick tw5396446701170858492 for Mine.blk by Mine.blk_eq
name_quick tw4966893808263662355 for Mine.blk by Mine.blk_eq
name_quick tw5068434257544371817 for Mine.blk by Mine.blk_eq
name_quick tw8777329075199875621 for Mine.blk by Mine.blk_eq
name_quick tw16289391198768371057 for Mine.blk by Mine.blk_eq
name_quick tw12821735335276811757 for Mine.blk by Mine.blk_eq
name_quick tw4679858250743294509 for Mine.blk by Mine.blk_eq
name_quick tw18211773271919218964 for Mine.blk by Mine.blk_eq
name_quick tw14553827428707814869 for Mine.blk by Mine.blk_eq
name_quick tw6135381517318000843 for Mine.blk by Mine.blk_eq
name_quick tw1706496860858754268 for Mine.blk by Mine.blk_eq
name_quick tw15475462885187679331 for Mine.blk by Mine.blk_eq
name_quick tw10205541121877940668 for Mine.blk by Mine.blk_eq
name_quick tw15576483152104568565 for Mine.blk by Mine.blk_eq
name_quick tw17520869792638436183 for Mine.blk by Mine.blk_eq
name_quick tw10092856319447448734 for Mine.blk by Mine.blk_eq
name_quick tw16644606511662114574 for Mine.blk by Mine.blk_eq
name_quick tw2664551874359636763 for Mine.blk by Mine.blk_eq
name_quick tw7461879971939330490 for Mine.blk by Mine.blk_eq
name_quick tw1829445100760108279 for Mine.blk by Mine.blk_eq
name_quick tw5299483063635442899 for Mine.blk by Mine.blk_eq
name_quick tw12945968074294007009 for Mine.blk by Mine.blk_eq
name_quick tw7729641633298002090 for Mine.blk by Mine.blk_eq
name_quick tw725871291056497461 for Mine.blk by Mine.blk_eq
name_quick tw5247225353297040015 for Mine.blk by Mine.blk_eq
name_quick tw11863081143760314161 for Mine.blk by Mine.blk_eq
name_quick tw7469732015759309437 for Mine.blk by Mine.blk_eq
name_quick tw8123005709971320403 for Mine.blk by Mine.blk_eq
name_quick tw15028816761298942483 for Mine.blk by Mine.blk_eq
name_quick tw14763704009068828915 for Mine.blk by Mine.blk_eq
name_quick tw13776390136698705113 for Mine.blk by Mine.blk_eq
name_quick tw10647819351689358120 for Mine.blk by Mine.blk_eq
name_quick tw12866136484021002089 for Mine.blk by Mine.blk_eq
name_quick tw1355338860687761863 for Mine.blk by Mine.blk_eq
name_quick tw1869930749605803152 for Mine.blk by Mine.blk_eq
name_quick tw3735880847841164279 for Mine.blk by Mine.blk_eq
name_quick tw15806122291839087668 for Mine.blk by Mine.blk_eq
name_quick tw17919728810627054236 for Mine.blk by Mine.blk_eq
name_quick tw2011108890870493169 for Mine.blk by Mine.blk_eq
name_quick tw9305782018832362445 for Mine.blk by Mine.blk_eq
name_quick tw3142773779024712118 for Mine.blk by Mine.blk_eq
name_quick tw11161088081135249708 for Mine.blk by Mine.blk_eq
name_quick tw7496433998918960881 for Mine.blk by Mine.blk_eq
name_quick tw16180582048198870337 for Mine.blk by Mine.blk_eq
name_quick tw7824674403005707151 for Mine.blk by Mine.blk_eq
name_quick tw17100903815162463580 for Mine.blk by Mine.blk_eq
name_quick tw3536357697601684980 for Mine.blk by Mine.blk_eq
name_quick tw6967401301877209104 for Mine.blk by Mine.blk_eq
name_quick tw9931943479562821362 for Mine.blk by Mine.blk_eq
name_quick tw2370425770031549630 for Mine.blk by Mine.blk_eq
name_quick tw14778209649434054790 for Mine.blk by Mine.blk_eq
name_quick tw13453990235181961046 for Mine.blk by Mine.blk_eq
name_quick tw16643379632663270332 for Mine.blk by Mine.blk_eq
name_quick tw8474383852179026721 for Mine.blk by Mine.blk_eq
name_quick tw16406328271908756883 for Mine.blk by Mine.blk_eq
name_quick tw17263276799224249500 for Mine.blk by Mine.blk_eq
name_quick tw3560238982266916124 for Mine.blk by Mine.blk_eq
name_quick tw13559156169165276386 for Mine.blk by Mine.blk_eq
name_quick tw3152983702415266003 for Mine.blk by Mine.blk_eq
name_quick tw1971209045111089449 for Mine.blk by Mine.blk_eq
name_quick tw17000458434675057986 for Mine.blk by Mine.blk_eq
name_quick tw15980859228951719591 for Mine.blk by Mine.blk_eq
name_quick tw15742981410569661332 for Mine.blk by Mine.blk_eq
name_quick tw9577309144901391297 for Mine.blk by Mine.blk_eq
name_quick tw4706425542698204933 for Mine.blk by Mine.blk_eq
name_quick tw12268644228514654432 for Mine.blk by Mine.blk_eq
name_quick tw6076076219008924368 for Mine.blk by Mine.blk_eq
name_quick tw9396933662098498411 for Mine.blk by Mine.blk_eq
name_quick tw489095991917526796 for Mine.blk by Mine.blk_eq
name_quick tw7275051467321613617 for Mine.blk by Mine.blk_eq
name_quick tw136631920214876835 for Mine.blk by Mine.blk_eq
name_quick tw17283992503375333543 for Mine.blk by Mine.blk_eq
name_quick tw1092655722715705105 for Mine.blk by Mine.blk_eq
name_quick tw7387991725200618308 for Mine.blk by Mine.blk_eq
name_quick tw10424941004445345732 for Mine.blk by Mine.blk_eq
name_quick tw1269743608478119537 for Mine.blk by Mine.blk_eq
name_quick tw5902227825499142635 for Mine.blk by Mine.blk_eq
name_quick tw12233582284571471492 for Mine.blk by Mine.blk_eq
name_quick tw18253757678009453241 for Mine.blk by Mine.blk_eq
name_quick tw15376083050721069600 for Mine.blk by Mine.blk_eq
name_quick tw9235277983596991582 for Mine.blk by Mine.blk_eq
name_quick tw2077871619930789226 for Mine.blk by Mine.blk_eq
name_quick tw14834023430324568649 for Mine.blk by Mine.blk_eq
name_quick tw5631866682500559305 for Mine.blk by Mine.blk_eq
name_quick tw1930203975799679532 for Mine.blk by Mine.blk_eq
name_quick tw12877114100897624224 for Mine.blk by Mine.blk_eq
name_quick tw6448080314894763839 for Mine.blk by Mine.blk_eq
name_quick tw14108194823987119177 for Mine.blk by Mine.blk_eq
name_quick tw1258299570235058372 for Mine.blk by Mine.blk_eq
name_quick tw10216692956209284516 for Mine.blk by Mine.blk_eq
name_quick tw6697550738653902072 for Mine.blk by Mine.blk_eq
name_quick tw282004115355043989 for Mine.blk by Mine.blk_eq
name_quick tw43969757491396457 for Mine.blk by Mine.blk_eq
name_quick tw10033396928017900241 for Mine.blk by Mine.blk_eq
name_quick tw13180171748994924942 for Mine.blk by Mine.blk_eq
name_quick tw16350708796919097252 for Mine.blk by Mine.blk_eq
name_quick tw7842807204330285214 for Mine.blk by Mine.blk_eq
name_quick tw3131671291697673992 for Mine.blk by Mine.blk_eq
name_quick tw11855487677703710099 for Mine.blk by Mine.blk_eq
name_quick tw288087438632003012 for Mine.blk by Mine.blk_eq
name_quick tw4205239288364317433 for Mine.blk by Mine.blk_eq
name_quick tw9893030918988833448 for Mine.blk by Mine.blk_eq
name_quick tw11543547407058413889 for Mine.blk by Mine.blk_eq
name_quick tw2401699919119007470 for Mine.blk by Mine.blk_eq
name_quick tw5807050765050996992 for Mine.blk by Mine.blk_eq
name_quick tw1333364371103165705 for Mine.blk by Mine.blk_eq
name_quick tw14884601019740666482 for Mine.blk by Mine.blk_eq
name_quick tw7286323032743288035 for Mine.blk by Mine.blk_eq
name_quick tw18310272354389090212 for Mine.blk by Mine.blk_eq
name_quick tw9720828393056574044 for Mine.blk by Mine.blk_eq
name_quick tw13316322371389871543 for Mine.blk by Mine.blk_eq
name_quick tw12832791649633735192 for Mine.blk by Mine.blk_eq
name_quick tw16916688483869632129 for Mine.blk by Mine.blk_eq
name_quick tw6122645084068987007 for Mine.blk by Mine.blk_eq
name_quick tw16413264400604254196 for Mine.blk by Mine.blk_eq
name_quick tw12022618010286034681 for Mine.blk by Mine.blk_eq
name_quick tw5946566240119215348 for Mine.blk by Mine.blk_eq
name_quick tw1370275717833778536 for Mine.blk by Mine.blk_eq
name_quick tw4434333111790514575 for Mine.blk by Mine.blk_eq
name_quick tw13642483538084851733 for Mine.blk by Mine.blk_eq
name_quick tw1886563365779066154 for Mine.blk by Mine.blk_eq
name_quick tw12450158673883907302 for Mine.blk by Mine.blk_eq
name_quick tw15300170045991075079 for Mine.blk by Mine.blk_eq
name_quick tw8603108125212654177 for Mine.blk by Mine.blk_eq
name_quick tw8727135674562949291 for Mine.blk by Mine.blk_eq
name_quick tw16846860572762119324 for Mine.blk by Mine.blk_eq
name_quick tw5529568453561195837 for Mine.blk by Mine.blk_eq
name_quick tw12527393111034389544 for Mine.blk by Mine.blk_eq
name_quick tw16189536214700107852 for Mine.blk by Mine.blk_eq
name_quick tw387338674003428930 for Mine.blk by Mine.blk_eq
name_quick tw11186114360453789277 for Mine.blk by Mine.blk_eq
name_quick tw17554001833073541016 for Mine.blk by Mine.blk_eq
name_quick tw7987952416473584550 for Mine.blk by Mine.blk_eq
name_quick tw14920864480051887209 for Mine.blk by Mine.blk_eq
name_quick tw14174611291570781762 for Mine.blk by Mine.blk_eq
name_quick tw12994954067883948608 for Mine.blk by Mine.blk_eq
name_quick tw3105397867545767578 for Mine.blk by Mine.blk_eq
name_quick tw15066959818950650227 for Mine.blk by Mine.blk_eq
name_quick tw2250404784220189610 for Mine.blk by Mine.blk_eq
name_quick tw2088544591296533915 for Mine.blk by Mine.blk_eq
name_quick tw1499420768645567495 for Mine.blk by Mine.blk_eq
name_quick tw9575731206691268911 for Mine.blk by Mine.blk_eq
name_quick tw17000756265888016 for Mine.blk by Mine.blk_eq
name_quick tw7543618554067911206 for Mine.blk by Mine.blk_eq
name_quick tw15766043655864335149 for Mine.blk by Mine.blk_eq
name_quick tw2504501939568898240 for Mine.blk by Mine.blk_eq
name_quick tw16180483070735683940 for Mine.blk by Mine.blk_eq
name_quick tw3306904295867340462 for Mine.blk by Mine.blk_eq
name_quick tw10719484529398299949 for Mine.blk by Mine.blk_eq
name_quick tw3256587380925597060 for Mine.blk by Mine.blk_eq
name_quick tw4224760802259116069 for Mine.blk by Mine.blk_eq
name_quick tw11519604305632133818 for Mine.blk by Mine.blk_eq
name_quick tw14285374257681291273 for Mine.blk by Mine.blk_eq
name_quick tw3889259530307233657 for Mine.blk by Mine.blk_eq
name_quick tw6380782515089751550 for Mine.blk by Mine.blk_eq
name_quick tw667198328695590252 for Mine.blk by Mine.blk_eq
name_quick tw8704618095886561957 for Mine.blk by Mine.blk_eq
name_quick tw8430678208038309684 for Mine.blk by Mine.blk_eq
name_quick tw6012508502120743258 for Mine.blk by Mine.blk_eq
name_quick tw9248541637817142097 for Mine.blk by Mine.blk_eq
name_quick tw757081541053455785 for Mine.blk by Mine.blk_eq
name_quick tw5976474108018559520 for Mine.blk by Mine.blk_eq
name_quick tw9219426015542480343 for Mine.blk by Mine.blk_eq
name_quick tw7074542288925894100 for Mine.blk by Mine.blk_eq
name_quick tw7957090006295546105 for Mine.blk by Mine.blk_eq
name_quick tw383695940523520267 for Mine.blk by Mine.blk_eq
name_quick tw12809422525583811893 for Mine.blk by Mine.blk_eq
name_quick tw18126140380344562322 for Mine.blk by Mine.blk_eq
name_quick tw7543195961347049332 for Mine.blk by Mine.blk_eq
name_quick tw7155543432591195943 for Mine.blk by Mine.blk_eq
name_quick tw16145008321745377990 for Mine.blk by Mine.blk_eq
name_quick tw558745408833754511 for Mine.blk by Mine.blk_eq
name_quick tw9787396351842916947 for Mine.blk by Mine.blk_eq
name_quick tw18099695126128789690 for Mine.blk by Mine.blk_eq
name_quick tw17139780236743587250 for Mine.blk by Mine.blk_eq
name_quick tw17082801352038058188 for Mine.blk by Mine.blk_eq
name_quick tw14224011070414065920 for Mine.blk by Mine.blk_eq
name_quick tw5111356299099525756 for Mine.blk by Mine.blk_eq
name_quick tw15663404670287596823 for Mine.blk by Mine.blk_eq
name_quick tw12172078356533094185 for Mine.blk by Mine.blk_eq
name_quick tw3891137856419664920 for Mine.blk by Mine.blk_eq
name_quick tw1690735587144091376 for Mine.blk by Mine.blk_eq
name_quick tw1210750091971509897 for Mine.blk by Mine.blk_eq
name_quick tw16865151637890581275 for Mine.blk by Mine.blk_eq
name_quick tw9062771732600952553 for Mine.blk by Mine.blk_eq
name_quick tw5701610774189311196 for Mine.blk by Mine.blk_eq
name_quick tw8944806292087596576 for Mine.blk by Mine.blk_eq
name_quick tw16712280214892120555 for Mine.blk by Mine.blk_eq
name_quick tw2422670821966735624 for Mine.blk by Mine.blk_eq
name_quick tw5423003317807263696 for Mine.blk by Mine.blk_eq
name_quick tw11510725203611331906 for Mine.blk by Mine.blk_eq
name_quick tw11317593695737139937 for Mine.blk by Mine.blk_eq
name_quick tw6504275150365058295 for Mine.blk by Mine.blk_eq
name_quick tw6589095468515690095 for Mine.blk by Mine.blk_eq
name_quick tw14273802060069496912 for Mine.blk by Mine.blk_eq
name_quick tw7269565832213808900 for Mine.blk by Mine.blk_eq
name_quick tw16531745337717519161 for Mine.blk by Mine.blk_eq
name_quick tw7853834085085047284 for Mine.blk by Mine.blk_eq
name_quick tw3764465048917985505 for Mine.blk by Mine.blk_eq
name_quick tw12290603225136948437 for Mine.blk by Mine.blk_eq
name_quick tw13759679279233594173 for Mine.blk by Mine.blk_eq
name_quick tw607167704815816724 for Mine.blk by Mine.blk_eq
name_quick tw15605440718772780007 for Mine.blk by Mine.blk_eq
name_quick tw9501820088010722379 for Mine.blk by Mine.blk_eq
name_quick tw15112985482279097393 for Mine.blk by Mine.blk_eq
name_quick tw13678640442995254988 for Mine.blk by Mine.blk_eq
name_quick tw3093977132361051618 for Mine.blk by Mine.blk_eq
name_quick tw2951486255847992690 for Mine.blk by Mine.blk_eq
name_quick tw14530364306720264245 for Mine.blk by Mine.blk_eq
name_quick tw8540232549379673566 for Mine.blk by Mine.blk_eq
name_quick tw13789449189825218787 for Mine.blk by Mine.blk_eq
name_quick tw16987768009889223052 for Mine.blk by Mine.blk_eq
name_quick tw16950312913027304927 for Mine.blk by Mine.blk_eq
name_quick tw13902233598862641821 for Mine.blk by Mine.blk_eq
name_quick tw14907048974825807369 for Mine.blk by Mine.blk_eq
name_quick tw11892598404827812706 for Mine.blk by Mine.blk_eq
name_quick tw5415697137353194442 for Mine.blk by Mine.blk_eq
name_quick tw9131251417149488404 for Mine.blk by Mine.blk_eq
name_quick tw17828083071136270317 for Mine.blk by Mine.blk_eq
name_quick tw11518781747449614426 for Mine.blk by Mine.blk_eq
name_quick tw17231944260260642093 for Mine.blk by Mine.blk_eq
name_quick tw15278061642289888581 for Mine.blk by Mine.blk_eq
name_quick tw16432479971616331241 for Mine.blk by Mine.blk_eq
name_quick tw16241802466949684156 for Mine.blk by Mine.blk_eq
name_quick tw9136488742655976645 for Mine.blk by Mine.blk_eq
name_quick tw7323676302269181137 for Mine.blk by Mine.blk_eq
name_quick tw5189142188285759775 for Mine.blk by Mine.blk_eq
name_quick tw2302674139485633275 for Mine.blk by Mine.blk_eq
name_quick tw13512673800721320934 for Mine.blk by Mine.blk_eq
name_quick tw14079958499647549597 for Mine.blk by Mine.blk_eq
name_quick tw9041768174481992944 for Mine.blk by Mine.blk_eq
name_quick tw11313170107247368264 for Mine.blk by Mine.blk_eq
name_quick tw14858287094103624389 for Mine.blk by Mine.blk_eq
name_quick tw18345786424863182364 for Mine.blk by Mine.blk_eq
name_quick tw14420389602138693270 for Mine.blk by Mine.blk_eq
name_quick tw13159241964716117882 for Mine.blk by Mine.blk_eq
name_quick tw8451552260295177759 for Mine.blk by Mine.blk_eq
name_quick tw8180830640274347804 for Mine.blk by Mine.blk_eq
name_quick tw10887116778572429059 for Mine.blk by Mine.blk_eq
name_quick tw3149940706203789266 for Mine.blk by Mine.blk_eq
name_quick tw17964007177503468958 for Mine.blk by Mine.blk_eq
name_quick tw11306939235166856333 for Mine.blk by Mine.blk_eq
name_quick tw16138931208732196661 for Mine.blk by Mine.blk_eq
name_quick tw7094674258960923220 for Mine.blk by Mine.blk_eq
name_quick tw15781324953245214433 for Mine.blk by Mine.blk_eq
name_quick tw10919533547850550483 for Mine.blk by Mine.blk_eq
name_quick tw3282434896037501709 for Mine.blk by Mine.blk_eq
name_quick tw11452132507678324671 for Mine.blk by Mine.blk_eq
name_quick tw17626262904599113365 for Mine.blk by Mine.blk_eq
name_quick tw8654737378357257675 for Mine.blk by Mine.blk_eq
name_quick tw15773981995205291829 for Mine.blk by Mine.blk_eq
name_quick tw11420187438672877268 for Mine.blk by Mine.blk_eq
name_quick tw16241297035194851746 for Mine.blk by Mine.blk_eq
name_quick tw11861152243698038893 for Mine.blk by Mine.blk_eq
name_quick tw15736541856241217950 for Mine.blk by Mine.blk_eq
name_quick tw3398876845080916796 for Mine.blk by Mine.blk_eq
name_quick tw1962928258387122110 for Mine.blk by Mine.blk_eq
name_quick tw3459824189758198600 for Mine.blk by Mine.blk_eq
name_quick tw16861218917600885097 for Mine.blk by Mine.blk_eq
name_quick tw494703546511474797 for Mine.blk by Mine.blk_eq
name_quick tw6004533443673955352 for Mine.blk by Mine.blk_eq
name_quick tw5152784196030571298 for Mine.blk by Mine.blk_eq
name_quick tw15067931366933112725 for Mine.blk by Mine.blk_eq
name_quick tw13658505271682890234 for Mine.blk by Mine.blk_eq
name_quick tw17169101284591775605 for Mine.blk by Mine.blk_eq
name_quick tw9673203406766833760 for Mine.blk by Mine.blk_eq
name_quick tw5820445615435017067 for Mine.blk by Mine.blk_eq
name_quick tw10057510723706494237 for Mine.blk by Mine.blk_eq
name_quick tw10042830170769951172 for Mine.blk by Mine.blk_eq
name_quick tw14529259203199301258 for Mine.blk by Mine.blk_eq
name_quick tw16942504070071679284 for Mine.blk by Mine.blk_eq
name_quick tw14942985259670156941 for Mine.blk by Mine.blk_eq
name_quick tw2351620601788327285 for Mine.blk by Mine.blk_eq
name_quick tw4405960384096086239 for Mine.blk by Mine.blk_eq
name_quick tw13070384816801012346 for Mine.blk by Mine.blk_eq
name_quick tw5410153933605578482 for Mine.blk by Mine.blk_eq
name_quick tw3386650904741475044 for Mine.blk by Mine.blk_eq
name_quick tw16942194440817826258 for Mine.blk by Mine.blk_eq
name_quick tw11641389924110848164 for Mine.blk by Mine.blk_eq
name_quick tw8959964123841196786 for Mine.blk by Mine.blk_eq
name_quick tw4172830789200971933 for Mine.blk by Mine.blk_eq
name_quick tw12885971956603332375 for Mine.blk by Mine.blk_eq
name_quick tw9076128300344869771 for Mine.blk by Mine.blk_eq
name_quick tw5758256569797452207 for Mine.blk by Mine.blk_eq
name_quick tw14844032806303022069 for Mine.blk by Mine.blk_eq
name_quick tw11957962974430299695 for Mine.blk by Mine.blk_eq
name_quick tw8509908385975216990 for Mine.blk by Mine.blk_eq
name_quick tw17848772402925894760 for Mine.blk by Mine.blk_eq
name_quick tw3470799630455053000 for Mine.blk by Mine.blk_eq
name_quick tw2948108419219029167 for Mine.blk by Mine.blk_eq
name_quick tw2895304030280410150 for Mine.blk by Mine.blk_eq
name_quick tw4466658021391931909 for Mine.blk by Mine.blk_eq
name_quick tw7802139600951554647 for Mine.blk by Mine.blk_eq
name_quick tw12773889961810623364 for Mine.blk by Mine.blk_eq
name_quick tw17015423121036801654 for Mine.blk by Mine.blk_eq
name_quick tw11825729669827539873 for Mine.blk by Mine.blk_eq
name_quick tw6648157844845288826 for Mine.blk by Mine.blk_eq
name_quick tw14265314264860633672 for Mine.blk by Mine.blk_eq
name_quick tw18163462532019968843 for Mine.blk by Mine.blk_eq
name_quick tw12050852935592152754 for Mine.blk by Mine.blk_eq
name_quick tw17842620306162639686 for Mine.blk by Mine.blk_eq
name_quick tw10257574182948591618 for Mine.blk by Mine.blk_eq
name_quick tw14973007898608030118 for Mine.blk by Mine.blk_eq
name_quick tw5854066237105225762 for Mine.blk by Mine.blk_eq
name_quick tw1100353791813204450 for Mine.blk by Mine.blk_eq
name_quick tw16874561944515371726 for Mine.blk by Mine.blk_eq
name_quick tw2718901123391026995 for Mine.blk by Mine.blk_eq
name_quick tw13471461260053382970 for Mine.blk by Mine.blk_eq
name_quick tw13526986893379352335 for Mine.blk by Mine.blk_eq
name_quick tw13833065179229638619 for Mine.blk by Mine.blk_eq
name_quick tw3766158894648301139 for Mine.blk by Mine.blk_eq
name_quick tw2378363196638174374 for Mine.blk by Mine.blk_eq
name_quick tw6144853644547557980 for Mine.blk by Mine.blk_eq
name_quick tw7692015426583400375 for Mine.blk by Mine.blk_eq
name_quick tw11740888236361828772 for Mine.blk by Mine.blk_eq
name_quick tw10078919187461690516 for Mine.blk by Mine.blk_eq
name_quick tw16413963553889246368 for Mine.blk by Mine.blk_eq
name_quick tw7386744729831018872 for Mine.blk by Mine.blk_eq
name_quick tw3228652444460286982 for Mine.blk by Mine.blk_eq
name_quick tw4733837786962973091 for Mine.blk by Mine.blk_eq
name_quick tw9999058972086379095 for Mine.blk by Mine.blk_eq
name_quick tw14934708107589980039 for Mine.blk by Mine.blk_eq
name_quick tw8800560270773162519 for Mine.blk by Mine.blk_eq
name_quick tw14971970265804392439 for Mine.blk by Mine.blk_eq
name_quick tw4507309187265873474 for Mine.blk by Mine.blk_eq
name_quick tw13317431791736044220 for Mine.blk by Mine.blk_eq
name_quick tw4921902886906138986 for Mine.blk by Mine.blk_eq
name_quick tw17060125343902188718 for Mine.blk by Mine.blk_eq
name_quick tw10308316962582663543 for Mine.blk by Mine.blk_eq
name_quick tw1735007293439650466 for Mine.blk by Mine.blk_eq
name_quick tw16729788964589934307 for Mine.blk by Mine.blk_eq
name_quick tw5952267759425050802 for Mine.blk by Mine.blk_eq
name_quick tw10320149354908582346 for Mine.blk by Mine.blk_eq
name_quick tw4858009861420398278 for Mine.blk by Mine.blk_eq
name_quick tw6125931036764729998 for Mine.blk by Mine.blk_eq
name_quick tw17727738676932873817 for Mine.blk by Mine.blk_eq
name_quick tw10299114407867686024 for Mine.blk by Mine.blk_eq
name_quick tw14433975572909055671 for Mine.blk by Mine.blk_eq
name_quick tw1711367819467211730 for Mine.blk by Mine.blk_eq
name_quick tw10709196673778178906 for Mine.blk by Mine.blk_eq
name_quick tw900395245841561262 for Mine.blk by Mine.blk_eq
name_quick tw10028428298569065181 for Mine.blk by Mine.blk_eq
name_quick tw4824431525194463578 for Mine.blk by Mine.blk_eq
name_quick tw6792406925840432001 for Mine.blk by Mine.blk_eq
name_quick tw9411460985935078520 for Mine.blk by Mine.blk_eq
name_quick tw13471316229770301743 for Mine.blk by Mine.blk_eq
name_quick tw16451151925259046446 for Mine.blk by Mine.blk_eq
name_quick tw2447775223705975068 for Mine.blk by Mine.blk_eq
name_quick tw8206430501311747189 for Mine.blk by Mine.blk_eq
name_quick tw6891000109920058784 for Mine.blk by Mine.blk_eq
name_quick tw11767421526060770920 for Mine.blk by Mine.blk_eq
name_quick tw14214133299417103183 for Mine.blk by Mine.blk_eq
name_quick tw9626942728845285128 for Mine.blk by Mine.blk_eq
name_quick tw1423138165483278961 for Mine.blk by Mine.blk_eq
name_quick tw8989982439271903415 for Mine.blk by Mine.blk_eq
name_quick tw15598799602833418400 for Mine.blk by Mine.blk_eq
name_quick tw18328561965235511954 for Mine.blk by Mine.blk_eq
name_quick tw17503288770812694035 for Mine.blk by Mine.blk_eq
name_quick tw8328094057196393916 for Mine.blk by Mine.blk_eq
name_quick tw2670528217467546775 for Mine.blk by Mine.blk_eq
name_quick tw8552093678088426289 for Mine.blk by Mine.blk_eq
name_quick tw10487160056961263569 for Mine.blk by Mine.blk_eq
name_quick tw716658179208862652 for Mine.blk by Mine.blk_eq
name_quick tw14952990662201256454 for Mine.blk by Mine.blk_eq
name_quick tw16366562015402752707 for Mine.blk by Mine.blk_eq
name_quick tw950723637873067451 for Mine.blk by Mine.blk_eq
name_quick tw4936483359421988267 for Mine.blk by Mine.blk_eq
name_quick tw6888100737891179579 for Mine.blk by Mine.blk_eq
name_quick tw13551572312386263098 for Mine.blk by Mine.blk_eq
name_quick tw15059462757989803610 for Mine.blk by Mine.blk_eq
name_quick tw7449101846280096545 for Mine.blk by Mine.blk_eq
name_quick tw2039238271031011813 for Mine.blk by Mine.blk_eq
name_quick tw12472836147817038354 for Mine.blk by Mine.blk_eq
name_quick tw6909570525239066004 for Mine.blk by Mine.blk_eq
name_quick tw14714103240675001986 for Mine.blk by Mine.blk_eq
name_quick tw15195428891847259777 for Mine.blk by Mine.blk_eq
name_quick tw18131936236247874842 for Mine.blk by Mine.blk_eq
name_quick tw13102660428377437172 for Mine.blk by Mine.blk_eq
name_quick tw13581749221687468397 for Mine.blk by Mine.blk_eq
name_quick tw12807690338718825411 for Mine.blk by Mine.blk_eq
name_quick tw11682084944484805031 for Mine.blk by Mine.blk_eq
name_quick tw17954736447514056666 for Mine.blk by Mine.blk_eq
name_quick tw10706342367453228570 for Mine.blk by Mine.blk_eq
name_quick tw6662432510661729299 for Mine.blk by Mine.blk_eq
name_quick tw8753696776887207221 for Mine.blk by Mine.blk_eq
name_quick tw14323765505736481980 for Mine.blk by Mine.blk_eq
name_quick tw17318589155259679147 for Mine.blk by Mine.blk_eq
name_quick tw9011979029575296479 for Mine.blk by Mine.blk_eq
name_quick tw932993149863042379 for Mine.blk by Mine.blk_eq
name_quick tw1102190903223815498 for Mine.blk by Mine.blk_eq
name_quick tw18360803836614840259 for Mine.blk by Mine.blk_eq
name_quick tw16474492168511960337 for Mine.blk by Mine.blk_eq
name_quick tw9736788993784561348 for Mine.blk by Mine.blk_eq
name_quick tw12371321757623732685 for Mine.blk by Mine.blk_eq
name_quick tw15207642765257501584 for Mine.blk by Mine.blk_eq
name_quick tw13871001218405608335 for Mine.blk by Mine.blk_eq
name_quick tw5248340912204065574 for Mine.blk by Mine.blk_eq
name_quick tw4594841794817819559 for Mine.blk by Mine.blk_eq
name_quick tw3365010085382643294 for Mine.blk by Mine.blk_eq
name_quick tw10010936943081839664 for Mine.blk by Mine.blk_eq
name_quick tw14311459727803291754 for Mine.blk by Mine.blk_eq
name_quick tw5144633987255907666 for Mine.blk by Mine.blk_eq
name_quick tw11994158751524154303 for Mine.blk by Mine.blk_eq
name_quick tw7140130562030077042 for Mine.blk by Mine.blk_eq
name_quick tw4613930686462287906 for Mine.blk by Mine.blk_eq
name_quick tw6213141578215901147 for Mine.blk by Mine.blk_eq
name_quick tw15199281503961881116 for Mine.blk by Mine.blk_eq
name_quick tw10672234772466254251 for Mine.blk by Mine.blk_eq
name_quick tw9529234661008812162 for Mine.blk by Mine.blk_eq
name_quick tw12679591844961189642 for Mine.blk by Mine.blk_eq
name_quick tw10767066097796618615 for Mine.blk by Mine.blk_eq
name_quick tw4111355340424721971 for Mine.blk by Mine.blk_eq
name_quick tw7231524377534056507 for Mine.blk by Mine.blk_eq
name_quick tw12475847535787081790 for Mine.blk by Mine.blk_eq
name_quick tw12064662690394058248 for Mine.blk by Mine.blk_eq
name_quick tw16048576614497160029 for Mine.blk by Mine.blk_eq
name_quick tw12973657651903071711 for Mine.blk by Mine.blk_eq
name_quick tw10460931487171540145 for Mine.blk by Mine.blk_eq
name_quick tw3488208955921114670 for Mine.blk by Mine.blk_eq
name_quick tw4039474712603431140 for Mine.blk by Mine.blk_eq
name_quick tw18350638575300117064 for Mine.blk by Mine.blk_eq
name_quick tw1667231139898017245 for Mine.blk by Mine.blk_eq
name_quick tw8125055898148337911 for Mine.blk by Mine.blk_eq
name_quick tw9821368406582625841 for Mine.blk by Mine.blk_eq
name_quick tw16593013826814733010 for Mine.blk by Mine.blk_eq
name_quick tw18056578402003937789 for Mine.blk by Mine.blk_eq
name_quick tw5720267713326709755 for Mine.blk by Mine.blk_eq
name_quick tw13241461904039861399 for Mine.blk by Mine.blk_eq
name_quick tw10846213317406478298 for Mine.blk by Mine.blk_eq
name_quick tw11636919720809706868 for Mine.blk by Mine.blk_eq
name_quick tw10029231156530900338 for Mine.blk by Mine.blk_eq
name_quick tw15194748194917737719 for Mine.blk by Mine.blk_eq
name_quick tw11462045893675790159 for Mine.blk by Mine.blk_eq
name_quick tw884248653220910886 for Mine.blk by Mine.blk_eq
name_quick tw17207840028585114417 for Mine.blk by Mine.blk_eq
name_quick tw16439824349840649037 for Mine.blk by Mine.blk_eq
name_quick tw12985358249318526461 for Mine.blk by Mine.blk_eq
name_quick tw3972328310683599613 for Mine.blk by Mine.blk_eq
name_quick tw878741703135273975 for Mine.blk by Mine.blk_eq
name_quick tw3039592710220408265 for Mine.blk by Mine.blk_eq
name_quick tw9674257727999782656 for Mine.blk by Mine.blk_eq
name_quick tw16437185098154296904 for Mine.blk by Mine.blk_eq
name_quick tw13615603153576403970 for Mine.blk by Mine.blk_eq
name_quick tw13900631225919944168 for Mine.blk by Mine.blk_eq
name_quick tw3545756843259802059 for Mine.blk by Mine.blk_eq
name_quick tw12177639751122801600 for Mine.blk by Mine.blk_eq
name_quick tw15034313371233782410 for Mine.blk by Mine.blk_eq
name_quick tw1055568401681811165 for Mine.blk by Mine.blk_eq
name_quick tw7561037823649445926 for Mine.blk by Mine.blk_eq
name_quick tw15965015591981942514 for Mine.blk by Mine.blk_eq
name_quick tw11277413387252134812 for Mine.blk by Mine.blk_eq
name_quick tw16280195873916505411 for Mine.blk by Mine.blk_eq
name_quick tw2354101950205528012 for Mine.blk by Mine.blk_eq
name_quick tw14460367522058181017 for Mine.blk by Mine.blk_eq
name_quick tw3783086151370532256 for Mine.blk by Mine.blk_eq
name_quick tw8459811325457737761 for Mine.blk by Mine.blk_eq
name_quick tw5889167727604068794 for Mine.blk by Mine.blk_eq
name_quick tw17774800907425398282 for Mine.blk by Mine.blk_eq
name_quick tw14874922208557711187 for Mine.blk by Mine.blk_eq
name_quick tw8999186272805695465 for Mine.blk by Mine.blk_eq
name_quick tw14097648870716263351 for Mine.blk by Mine.blk_eq
name_quick tw15007238320947547705 for Mine.blk by Mine.blk_eq
name_quick tw13847470327216474714 for Mine.blk by Mine.blk_eq
name_quick tw13816233472422033322 for Mine.blk by Mine.blk_eq
name_quick tw764782834095389478 for Mine.blk by Mine.blk_eq
name_quick tw9300948228871686676 for Mine.blk by Mine.blk_eq
name_quick tw17164873540382356111 for Mine.blk by Mine.blk_eq
name_quick tw16548257151911338427 for Mine.blk by Mine.blk_eq
name_quick tw10797649063328284778 for Mine.blk by Mine.blk_eq
name_quick tw912392155897948271 for Mine.blk by Mine.blk_eq
name_quick tw4090926877573551719 for Mine.blk by Mine.blk_eq
name_quick tw4318056027017086478 for Mine.blk by Mine.blk_eq
name_quick tw17863021456227041891 for Mine.blk by Mine.blk_eq
name_quick tw1993567047419047990 for Mine.blk by Mine.blk_eq
name_quick tw12647630874787467225 for Mine.blk by Mine.blk_eq
name_quick tw5450187663091677483 for Mine.blk by Mine.blk_eq
name_quick tw15900120412870309639 for Mine.blk by Mine.blk_eq
name_quick tw4292500188555128830 for Mine.blk by Mine.blk_eq
name_quick tw9087420756778563785 for Mine.blk by Mine.blk_eq
name_quick tw1617757218408452269 for Mine.blk by Mine.blk_eq
name_quick tw4558998842232669794 for Mine.blk by Mine.blk_eq
name_quick tw14615009949319019899 for Mine.blk by Mine.blk_eq
name_quick tw18123110421147349612 for Mine.blk by Mine.blk_eq
name_quick tw2504098582860672743 for Mine.blk by Mine.blk_eq
name_quick tw2134368852220247820 for Mine.blk by Mine.blk_eq
name_quick tw11935356649212052271 for Mine.blk by Mine.blk_eq
name_quick tw139799656371268569 for Mine.blk by Mine.blk_eq
name_quick tw9047900276149940361 for Mine.blk by Mine.blk_eq
name_quick tw9492235034089005946 for Mine.blk by Mine.blk_eq
name_quick tw5512085447785999860 for Mine.blk by Mine.blk_eq
name_quick tw12494133203773749484 for Mine.blk by Mine.blk_eq
name_quick tw15983881195869794717 for Mine.blk by Mine.blk_eq
name_quick tw2118141222776746865 for Mine.blk by Mine.blk_eq
name_quick tw4966674849315620570 for Mine.blk by Mine.blk_eq
name_quick tw5706481520468235054 for Mine.blk by Mine.blk_eq
name_quick tw7892128664451923741 for Mine.blk by Mine.blk_eq
name_quick tw12606261883493885652 for Mine.blk by Mine.blk_eq
name_quick tw13951257522405164796 for Mine.blk by Mine.blk_eq
name_quick tw6363645014702824404 for Mine.blk by Mine.blk_eq
name_quick tw921073385446354868 for Mine.blk by Mine.blk_eq
name_quick tw2408619945344806742 for Mine.blk by Mine.blk_eq
name_quick tw17001327861769816259 for Mine.blk by Mine.blk_eq
name_quick tw6551367506479906963 for Mine.blk by Mine.blk_eq
name_quick tw15168306246750427876 for Mine.blk by Mine.blk_eq
name_quick tw15202239659555905331 for Mine.blk by Mine.blk_eq
name_quick tw11838138170533393997 for Mine.blk by Mine.blk_eq
name_quick tw3324361733244956215 for Mine.blk by Mine.blk_eq
name_quick tw16966814322356759819 for Mine.blk by Mine.blk_eq
name_quick tw9165568632223901487 for Mine.blk by Mine.blk_eq
name_quick tw6937325167468391026 for Mine.blk by Mine.blk_eq
name_quick tw15157221202141545114 for Mine.blk by Mine.blk_eq
name_quick tw14766643958189025262 for Mine.blk by Mine.blk_eq
name_quick tw9467589175468403638 for Mine.blk by Mine.blk_eq
name_quick tw6179359751918216688 for Mine.blk by Mine.blk_eq
name_quick tw12377561305857167785 for Mine.blk by Mine.blk_eq
name_quick tw1204117194425446250 for Mine.blk by Mine.blk_eq
name_quick tw2905824091091238844 for Mine.blk by Mine.blk_eq
name_quick tw13804622635509601256 for Mine.blk by Mine.blk_eq
name_quick tw6692178689416817613 for Mine.blk by Mine.blk_eq
name_quick tw505943868828395459 for Mine.blk by Mine.blk_eq
name_quick tw3365093317950918147 for Mine.blk by Mine.blk_eq
name_quick tw9281714027785469542 for Mine.blk by Mine.blk_eq
name_quick tw3327986453032591115 for Mine.blk by Mine.blk_eq
name_quick tw11310463157757771331 for Mine.blk by Mine.blk_eq
name_quick tw535072334866317008 for Mine.blk by Mine.blk_eq
name_quick tw7009043117176579089 for Mine.blk by Mine.blk_eq
name_quick tw7788680626742099145 for Mine.blk by Mine.blk_eq
name_quick tw6900397732965128853 for Mine.blk by Mine.blk_eq
name_quick tw6832808476680081064 for Mine.blk by Mine.blk_eq
name_quick tw389472881494512206 for Mine.blk by Mine.blk_eq
name_quick tw5607064600570693084 for Mine.blk by Mine.blk_eq
name_quick tw15808557625122938864 for Mine.blk by Mine.blk_eq
name_quick tw16737559591592110954 for Mine.blk by Mine.blk_eq
name_quick tw4797165386629745026 for Mine.blk by Mine.blk_eq
name_quick tw5882768191206486792 for Mine.blk by Mine.blk_eq
name_quick tw17274371674624000324 for Mine.blk by Mine.blk_eq
name_quick tw293829605474521371 for Mine.blk by Mine.blk_eq
name_quick tw12635813782599140982 for Mine.blk by Mine.blk_eq
name_quick tw12227490674122928909 for Mine.blk by Mine.blk_eq
name_quick tw2387720566874501970 for Mine.blk by Mine.blk_eq
name_quick tw7813595514833214533 for Mine.blk by Mine.blk_eq
name_quick tw6624491594363574236 for Mine.blk by Mine.blk_eq
name_quick tw3820604794100220378 for Mine.blk by Mine.blk_eq
name_quick tw16869277618539721502 for Mine.blk by Mine.blk_eq
name_quick tw8649964590619651473 for Mine.blk by Mine.blk_eq
name_quick tw16741492637210864865 for Mine.blk by Mine.blk_eq
name_quick tw18366058095514959488 for Mine.blk by Mine.blk_eq
name_quick tw13981391230805400906 for Mine.blk by Mine.blk_eq
name_quick tw12659028871203227004 for Mine.blk by Mine.blk_eq
name_quick tw16723424844129597499 for Mine.blk by Mine.blk_eq
name_quick tw16258813485015810305 for Mine.blk by Mine.blk_eq
name_quick tw6801968546669101340 for Mine.blk by Mine.blk_eq
name_quick tw9305466669911107070 for Mine.blk by Mine.blk_eq
name_quick tw4580202747914273547 for Mine.blk by Mine.blk_eq
name_quick tw973662469405803806 for Mine.blk by Mine.blk_eq
name_quick tw5550314157272711993 for Mine.blk by Mine.blk_eq
name_quick tw16328912562034613984 for Mine.blk by Mine.blk_eq
name_quick tw11891824955294080559 for Mine.blk by Mine.blk_eq
name_quick tw11013792430000457035 for Mine.blk by Mine.blk_eq
name_quick tw8098380416015320538 for Mine.blk by Mine.blk_eq
name_quick tw7783732958741208154 for Mine.blk by Mine.blk_eq
name_quick tw17719373434677690450 for Mine.blk by Mine.blk_eq
name_quick tw313226197891681235 for Mine.blk by Mine.blk_eq
name_quick tw17943406268862710625 for Mine.blk by Mine.blk_eq
name_quick tw18011898689540126615 for Mine.blk by Mine.blk_eq
name_quick tw16176465441171805009 for Mine.blk by Mine.blk_eq
name_quick tw13156168479132978002 for Mine.blk by Mine.blk_eq
name_quick tw7499937903120025604 for Mine.blk by Mine.blk_eq
name_quick tw3778451253796500701 for Mine.blk by Mine.blk_eq
name_quick tw17325535178939296128 for Mine.blk by Mine.blk_eq
name_quick tw15215539614974913122 for Mine.blk by Mine.blk_eq
name_quick tw6929956602132211858 for Mine.blk by Mine.blk_eq
name_quick tw17596809139577655471 for Mine.blk by Mine.blk_eq
name_quick tw3880421473898291048 for Mine.blk by Mine.blk_eq
name_quick tw7585139358526817783 for Mine.blk by Mine.blk_eq
name_quick tw3196378941336150401 for Mine.blk by Mine.blk_eq
name_quick tw3054071069301022655 for Mine.blk by Mine.blk_eq
name_quick tw3436264866546951355 for Mine.blk by Mine.blk_eq
name_quick tw17018628822417861297 for Mine.blk by Mine.blk_eq
name_quick tw12224578244612797663 for Mine.blk by Mine.blk_eq
name_quick tw5823794197072137003 for Mine.blk by Mine.blk_eq
name_quick tw4183877074749451670 for Mine.blk by Mine.blk_eq
name_quick tw6148621092414575339 for Mine.blk by Mine.blk_eq
name_quick tw10819683100428557426 for Mine.blk by Mine.blk_eq
name_quick tw11588390666370768167 for Mine.blk by Mine.blk_eq
name_quick tw16414604833108395602 for Mine.blk by Mine.blk_eq
name_quick tw8017206721242287953 for Mine.blk by Mine.blk_eq
name_quick tw7641510929779896126 for Mine.blk by Mine.blk_eq
name_quick tw13404028037160507757 for Mine.blk by Mine.blk_eq
name_quick tw7573151900890175926 for Mine.blk by Mine.blk_eq
name_quick tw2862820112641550484 for Mine.blk by Mine.blk_eq
name_quick tw5149714755402479525 for Mine.blk by Mine.blk_eq
name_quick tw8642067239939848140 for Mine.blk by Mine.blk_eq
name_quick tw1305609685974793870 for Mine.blk by Mine.blk_eq
name_quick tw6917869754434977982 for Mine.blk by Mine.blk_eq
name_quick tw11254254501726123291 for Mine.blk by Mine.blk_eq
name_quick tw9515652053505349548 for Mine.blk by Mine.blk_eq
name_quick tw196644378293983589 for Mine.blk by Mine.blk_eq
name_quick tw5697894365363955025 for Mine.blk by Mine.blk_eq
name_quick tw13690843758732723530 for Mine.blk by Mine.blk_eq
name_quick tw10566222408779648918 for Mine.blk by Mine.blk_eq
name_quick tw16495559152270511615 for Mine.blk by Mine.blk_eq
name_quick tw7074795694173733578 for Mine.blk by Mine.blk_eq
name_quick tw6944952908185719654 for Mine.blk by Mine.blk_eq
name_quick tw10379131730601215995 for Mine.blk by Mine.blk_eq
name_quick tw9504726810853072989 for Mine.blk by Mine.blk_eq
name_quick tw4319705520415482375 for Mine.blk by Mine.blk_eq
name_quick tw2478078296215019888 for Mine.blk by Mine.blk_eq
name_quick tw12392613427281201732 for Mine.blk by Mine.blk_eq
name_quick tw2922074901204462755 for Mine.blk by Mine.blk_eq
name_quick tw608726401823008365 for Mine.blk by Mine.blk_eq
name_quick tw11707371222683016368 for Mine.blk by Mine.blk_eq
name_quick tw12237943961548833269 for Mine.blk by Mine.blk_eq
name_quick tw8686407601681055034 for Mine.blk by Mine.blk_eq
name_quick tw7191607858210974391 for Mine.blk by Mine.blk_eq
name_quick tw7950560144509940271 for Mine.blk by Mine.blk_eq
name_quick tw16049961110935095269 for Mine.blk by Mine.blk_eq
name_quick tw7976981314885711489 for Mine.blk by Mine.blk_eq
name_quick tw9862997608875712007 for Mine.blk by Mine.blk_eq
name_quick tw7538125934224741611 for Mine.blk by Mine.blk_eq
name_quick tw8224813933742928703 for Mine.blk by Mine.blk_eq
name_quick tw18350330562280901221 for Mine.blk by Mine.blk_eq
name_quick tw9868982950595657695 for Mine.blk by Mine.blk_eq
name_quick tw8119918657739134586 for Mine.blk by Mine.blk_eq
name_quick tw5815302876190815700 for Mine.blk by Mine.blk_eq
name_quick tw10885399304501877467 for Mine.blk by Mine.blk_eq
name_quick tw13903129631018457399 for Mine.blk by Mine.blk_eq
name_quick tw6519424955469430661 for Mine.blk by Mine.blk_eq
name_quick tw10727534119236929211 for Mine.blk by Mine.blk_eq
name_quick tw13725850141900786883 for Mine.blk by Mine.blk_eq
name_quick tw1615719349143574890 for Mine.blk by Mine.blk_eq
name_quick tw10670733350059645105 for Mine.blk by Mine.blk_eq
name_quick tw7165179329215463379 for Mine.blk by Mine.blk_eq
name_quick tw8385612375773290118 for Mine.blk by Mine.blk_eq
name_quick tw5082074563857973206 for Mine.blk by Mine.blk_eq
name_quick tw14588557730865908194 for Mine.blk by Mine.blk_eq
name_quick tw2721586585765338809 for Mine.blk by Mine.blk_eq
name_quick tw5289962621202845349 for Mine.blk by Mine.blk_eq
name_quick tw10010511219673018494 for Mine.blk by Mine.blk_eq
name_quick tw17695988578738506429 for Mine.blk by Mine.blk_eq
name_quick tw6698160770425034372 for Mine.blk by Mine.blk_eq
name_quick tw14389334442490810641 for Mine.blk by Mine.blk_eq
name_quick tw6817277305950994716 for Mine.blk by Mine.blk_eq
name_quick tw13580328829973926956 for Mine.blk by Mine.blk_eq
name_quick tw5853609219237828028 for Mine.blk by Mine.blk_eq
name_quick tw18416463498863911781 for Mine.blk by Mine.blk_eq
name_quick tw13141144453892091621 for Mine.blk by Mine.blk_eq
name_quick tw6587116730350146372 for Mine.blk by Mine.blk_eq
name_quick tw5357591511691535388 for Mine.blk by Mine.blk_eq
name_quick tw219737044198020058 for Mine.blk by Mine.blk_eq
name_quick tw14073306499274444402 for Mine.blk by Mine.blk_eq
name_quick tw14981143343336467331 for Mine.blk by Mine.blk_eq
name_quick tw396607853666888187 for Mine.blk by Mine.blk_eq
name_quick tw6834602518627153040 for Mine.blk by Mine.blk_eq
name_quick tw5732905514179830355 for Mine.blk by Mine.blk_eq
name_quick tw16309933130070103497 for Mine.blk by Mine.blk_eq
name_quick tw15062378111984178829 for Mine.blk by Mine.blk_eq
name_quick tw17295947923314359676 for Mine.blk by Mine.blk_eq
name_quick tw7198390536060210744 for Mine.blk by Mine.blk_eq
name_quick tw4901617435021342793 for Mine.blk by Mine.blk_eq
name_quick tw4319011637217762917 for Mine.blk by Mine.blk_eq
name_quick tw12456492676567594705 for Mine.blk by Mine.blk_eq
name_quick tw4110589180456253056 for Mine.blk by Mine.blk_eq
name_quick tw1157545019965518967 for Mine.blk by Mine.blk_eq
name_quick tw9236875199018929784 for Mine.blk by Mine.blk_eq
name_quick tw11036193050239951465 for Mine.blk by Mine.blk_eq
name_quick tw5315457868209417068 for Mine.blk by Mine.blk_eq
name_quick tw8595292554425487202 for Mine.blk by Mine.blk_eq
name_quick tw13142473509193869113 for Mine.blk by Mine.blk_eq
name_quick tw5345256250457102556 for Mine.blk by Mine.blk_eq
name_quick tw4949472239710415697 for Mine.blk by Mine.blk_eq
name_quick tw11817470609975844035 for Mine.blk by Mine.blk_eq
name_quick tw17804436615005485693 for Mine.blk by Mine.blk_eq
name_quick tw1916944219915559503 for Mine.blk by Mine.blk_eq
name_quick tw1537898542681612871 for Mine.blk by Mine.blk_eq
name_quick tw16648231224745350325 for Mine.blk by Mine.blk_eq
name_quick tw10352308551163946355 for Mine.blk by Mine.blk_eq
name_quick tw7299303143086499733 for Mine.blk by Mine.blk_eq
name_quick tw7405434945208526273 for Mine.blk by Mine.blk_eq
name_quick tw17552769576498331613 for Mine.blk by Mine.blk_eq
name_quick tw6683783046931543321 for Mine.blk by Mine.blk_eq
name_quick tw3740020263889925745 for Mine.blk by Mine.blk_eq
name_quick tw12850107946570832962 for Mine.blk by Mine.blk_eq
name_quick tw12049575158971614909 for Mine.blk by Mine.blk_eq
name_quick tw3633577522364906407 for Mine.blk by Mine.blk_eq
name_quick tw18200712748503757919 for Mine.blk by Mine.blk_eq
name_quick tw9206804518496725263 for Mine.blk by Mine.blk_eq
name_quick tw1711657323119017317 for Mine.blk by Mine.blk_eq
name_quick tw9458956999447867950 for Mine.blk by Mine.blk_eq
name_quick tw13912434898499826684 for Mine.blk by Mine.blk_eq
name_quick tw12177649209318274912 for Mine.blk by Mine.blk_eq
name_quick tw1771862750571323454 for Mine.blk by Mine.blk_eq
name_quick tw11137651959834898467 for Mine.blk by Mine.blk_eq
name_quick tw16296994325663420285 for Mine.blk by Mine.blk_eq
name_quick tw6234664779796018075 for Mine.blk by Mine.blk_eq
name_quick tw151948405760981731 for Mine.blk by Mine.blk_eq
name_quick tw1749818173716722547 for Mine.blk by Mine.blk_eq
name_quick tw8860024209350480642 for Mine.blk by Mine.blk_eq
name_quick tw1544652992362985085 for Mine.blk by Mine.blk_eq
name_quick tw5862295025349918931 for Mine.blk by Mine.blk_eq
name_quick tw14043711374191979534 for Mine.blk by Mine.blk_eq
name_quick tw8796240567053077481 for Mine.blk by Mine.blk_eq
name_quick tw12477758415327278626 for Mine.blk by Mine.blk_eq
name_quick tw2078703811421203504 for Mine.blk by Mine.blk_eq
name_quick tw13251161224904053152 for Mine.blk by Mine.blk_eq
name_quick tw6517296806544964722 for Mine.blk by Mine.blk_eq
name_quick tw12114495157272644582 for Mine.blk by Mine.blk_eq
name_quick tw17827458813498177553 for Mine.blk by Mine.blk_eq
name_quick tw329819065673440000 for Mine.blk by Mine.blk_eq
name_quick tw16039550372008468697 for Mine.blk by Mine.blk_eq
name_quick tw8987815912523675519 for Mine.blk by Mine.blk_eq
name_quick tw1107438419126420414 for Mine.blk by Mine.blk_eq
name_quick tw1772237422875290029 for Mine.blk by Mine.blk_eq
name_quick tw14186486079044719983 for Mine.blk by Mine.blk_eq
name_quick tw5950129339639070837 for Mine.blk by Mine.blk_eq
name_quick tw16292439048969090190 for Mine.blk by Mine.blk_eq
name_quick tw7299951869573292228 for Mine.blk by Mine.blk_eq
name_quick tw17101871299007795629 for Mine.blk by Mine.blk_eq
name_quick tw15823609455315575823 for Mine.blk by Mine.blk_eq
name_quick tw4665496328224945229 for Mine.blk by Mine.blk_eq
name_quick tw17045043414572947948 for Mine.blk by Mine.blk_eq
name_quick tw12128325577817847261 for Mine.blk by Mine.blk_eq
name_quick tw1401972060568974870 for Mine.blk by Mine.blk_eq
name_quick tw18220123701641295943 for Mine.blk by Mine.blk_eq
name_quick tw6606113021469975653 for Mine.blk by Mine.blk_eq
name_quick tw3758773823038459598 for Mine.blk by Mine.blk_eq
name_quick tw16374537267813192141 for Mine.blk by Mine.blk_eq
name_quick tw447715330943862342 for Mine.blk by Mine.blk_eq
name_quick tw252367510798351285 for Mine.blk by Mine.blk_eq
name_quick tw13145125596335152023 for Mine.blk by Mine.blk_eq
name_quick tw17814930658547583709 for Mine.blk by Mine.blk_eq
name_quick tw14023627001141898710 for Mine.blk by Mine.blk_eq
name_quick tw1085346719588807367 for Mine.blk by Mine.blk_eq
name_quick tw12170303376835216750 for Mine.blk by Mine.blk_eq
name_quick tw9564595351457756722 for Mine.blk by Mine.blk_eq
name_quick tw17955133630450735404 for Mine.blk by Mine.blk_eq
name_quick tw3442601649717412197 for Mine.blk by Mine.blk_eq
name_quick tw2660918139993853925 for Mine.blk by Mine.blk_eq
name_quick tw8432684481940611981 for Mine.blk by Mine.blk_eq
name_quick tw9082586571710850966 for Mine.blk by Mine.blk_eq
name_quick tw16751196440357475278 for Mine.blk by Mine.blk_eq
name_quick tw686183698351167624 for Mine.blk by Mine.blk_eq
name_quick tw7618406622816332465 for Mine.blk by Mine.blk_eq
name_quick tw8283515000281207119 for Mine.blk by Mine.blk_eq
name_quick tw4352594626159697269 for Mine.blk by Mine.blk_eq
name_quick tw17975652961387846372 for Mine.blk by Mine.blk_eq
name_quick tw9626621113073979434 for Mine.blk by Mine.blk_eq
name_quick tw6555881627085455882 for Mine.blk by Mine.blk_eq
name_quick tw3460871413274159568 for Mine.blk by Mine.blk_eq
name_quick tw5076957145309523181 for Mine.blk by Mine.blk_eq
name_quick tw4552823106982906706 for Mine.blk by Mine.blk_eq
name_quick tw17475289236778735526 for Mine.blk by Mine.blk_eq
name_quick tw13294325848734340343 for Mine.blk by Mine.blk_eq
name_quick tw1419416864934026935 for Mine.blk by Mine.blk_eq
name_quick tw7098571738820278039 for Mine.blk by Mine.blk_eq
name_quick tw15468230090516036684 for Mine.blk by Mine.blk_eq
name_quick tw10317580896714288900 for Mine.blk by Mine.blk_eq
name_quick tw7581352650102555174 for Mine.blk by Mine.blk_eq
name_quick tw325292655437039998 for Mine.blk by Mine.blk_eq
name_quick tw6132934438814934913 for Mine.blk by Mine.blk_eq
name_quick tw2968979199505139716 for Mine.blk by Mine.blk_eq
name_quick tw11882691865914478047 for Mine.blk by Mine.blk_eq
name_quick tw16495097172686442475 for Mine.blk by Mine.blk_eq
name_quick tw2037417660504910701 for Mine.blk by Mine.blk_eq
name_quick tw16417370028952169744 for Mine.blk by Mine.blk_eq
name_quick tw724751600484774222 for Mine.blk by Mine.blk_eq
name_quick tw13640514254501968386 for Mine.blk by Mine.blk_eq
name_quick tw15103234261437856402 for Mine.blk by Mine.blk_eq
name_quick tw5698774287046732500 for Mine.blk by Mine.blk_eq
name_quick tw3976722010076183465 for Mine.blk by Mine.blk_eq
name_quick tw10220936982206179058 for Mine.blk by Mine.blk_eq
name_quick tw12095823642532355627 for Mine.blk by Mine.blk_eq
name_quick tw17853915177807527196 for Mine.blk by Mine.blk_eq
name_quick tw16697116713213952808 for Mine.blk by Mine.blk_eq
name_quick tw9676229304581654039 for Mine.blk by Mine.blk_eq
name_quick tw6267220430429643429 for Mine.blk by Mine.blk_eq
name_quick tw11853533878840232495 for Mine.blk by Mine.blk_eq
name_quick tw10040787053062605231 for Mine.blk by Mine.blk_eq
name_quick tw13746126617404028095 for Mine.blk by Mine.blk_eq
name_quick tw12767683915131110723 for Mine.blk by Mine.blk_eq
name_quick tw16645262185327669138 for Mine.blk by Mine.blk_eq
name_quick tw8229689697521897066 for Mine.blk by Mine.blk_eq
name_quick tw15323854079317868165 for Mine.blk by Mine.blk_eq
name_quick tw3777755567575978352 for Mine.blk by Mine.blk_eq
name_quick tw6993175162768986339 for Mine.blk by Mine.blk_eq
name_quick tw6607189417530752870 for Mine.blk by Mine.blk_eq
name_quick tw1188131947540300063 for Mine.blk by Mine.blk_eq
name_quick tw1995926237046646575 for Mine.blk by Mine.blk_eq
name_quick tw17517737089405305841 for Mine.blk by Mine.blk_eq
name_quick tw15247426752500302083 for Mine.blk by Mine.blk_eq
name_quick tw5646442142991981755 for Mine.blk by Mine.blk_eq
name_quick tw8579058602437062094 for Mine.blk by Mine.blk_eq
name_quick tw10782641618400255816 for Mine.blk by Mine.blk_eq
name_quick tw12825359941727978080 for Mine.blk by Mine.blk_eq
name_quick tw15542691292777871779 for Mine.blk by Mine.blk_eq
name_quick tw14401720017095790664 for Mine.blk by Mine.blk_eq
name_quick tw6580340599500149305 for Mine.blk by Mine.blk_eq
name_quick tw17280976486791472633 for Mine.blk by Mine.blk_eq
name_quick tw7397068168572129948 for Mine.blk by Mine.blk_eq
name_quick tw2736616831223182526 for Mine.blk by Mine.blk_eq
name_quick tw4681523508651956083 for Mine.blk by Mine.blk_eq
name_quick tw3825061337978711158 for Mine.blk by Mine.blk_eq
name_quick tw7082770336023389322 for Mine.blk by Mine.blk_eq
name_quick tw5228443966233409354 for Mine.blk by Mine.blk_eq
name_quick tw17341736924252097559 for Mine.blk by Mine.blk_eq
name_quick tw3427515755752030745 for Mine.blk by Mine.blk_eq
name_quick tw3952652319720093869 for Mine.blk by Mine.blk_eq
name_quick tw17954471519018878134 for Mine.blk by Mine.blk_eq
name_quick tw17537794083376710389 for Mine.blk by Mine.blk_eq
name_quick tw18466492976756830 for Mine.blk by Mine.blk_eq
name_quick tw7276740287692124622 for Mine.blk by Mine.blk_eq
name_quick tw10823345740709935493 for Mine.blk by Mine.blk_eq
name_quick tw9787463984185863102 for Mine.blk by Mine.blk_eq
name_quick tw15560500314895047343 for Mine.blk by Mine.blk_eq
name_quick tw7581816359482902497 for Mine.blk by Mine.blk_eq
name_quick tw18386054884457128365 for Mine.blk by Mine.blk_eq
name_quick tw1763209079605825380 for Mine.blk by Mine.blk_eq
name_quick tw17352973434858128600 for Mine.blk by Mine.blk_eq
name_quick tw14544052848187043789 for Mine.blk by Mine.blk_eq
name_quick tw12182807814244774211 for Mine.blk by Mine.blk_eq
name_quick tw183835017167291270 for Mine.blk by Mine.blk_eq
name_quick tw6019396324639902685 for Mine.blk by Mine.blk_eq
name_quick tw3856783459128436802 for Mine.blk by Mine.blk_eq
name_quick tw11793402487394874009 for Mine.blk by Mine.blk_eq
name_quick tw15880737140895825463 for Mine.blk by Mine.blk_eq
name_quick tw195516440579289731 for Mine.blk by Mine.blk_eq
name_quick tw2370070277545300124 for Mine.blk by Mine.blk_eq
name_quick tw10015664371746657536 for Mine.blk by Mine.blk_eq
name_quick tw14837249469386935497 for Mine.blk by Mine.blk_eq
name_quick tw14285029430470858289 for Mine.blk by Mine.blk_eq
name_quick tw1156252341971683116 for Mine.blk by Mine.blk_eq
name_quick tw11964429278604863157 for Mine.blk by Mine.blk_eq
name_quick tw5135500740108067664 for Mine.blk by Mine.blk_eq
name_quick tw10758392820592806131 for Mine.blk by Mine.blk_eq
name_quick tw11960580518372995122 for Mine.blk by Mine.blk_eq
name_quick tw13925586954763233925 for Mine.blk by Mine.blk_eq
name_quick tw15315713394281565010 for Mine.blk by Mine.blk_eq
name_quick tw4980102563643897964 for Mine.blk by Mine.blk_eq
name_quick tw7483462131439158144 for Mine.blk by Mine.blk_eq
name_quick tw13160144027095335755 for Mine.blk by Mine.blk_eq
name_quick tw6357409834272390260 for Mine.blk by Mine.blk_eq
name_quick tw1702518465993881591 for Mine.blk by Mine.blk_eq
name_quick tw10181792811725400092 for Mine.blk by Mine.blk_eq
name_quick tw5978237884098788730 for Mine.blk by Mine.blk_eq
name_quick tw3698559305507148144 for Mine.blk by Mine.blk_eq
name_quick tw5518745428033880147 for Mine.blk by Mine.blk_eq
name_quick tw12734952128020822468 for Mine.blk by Mine.blk_eq
name_quick tw16148938690769344688 for Mine.blk by Mine.blk_eq
name_quick tw11334522289143818824 for Mine.blk by Mine.blk_eq
name_quick tw4109823476700235019 for Mine.blk by Mine.blk_eq
name_quick tw16349216596472256690 for Mine.blk by Mine.blk_eq
name_quick tw5386766301290243201 for Mine.blk by Mine.blk_eq
name_quick tw11629953924900746896 for Mine.blk by Mine.blk_eq
name_quick tw1857294707202544078 for Mine.blk by Mine.blk_eq
name_quick tw8032284361305108907 for Mine.blk by Mine.blk_eq
name_quick tw4430655021044022179 for Mine.blk by Mine.blk_eq
name_quick tw15450981722951097364 for Mine.blk by Mine.blk_eq
name_quick tw2305325121136568689 for Mine.blk by Mine.blk_eq
name_quick tw9203354889408330259 for Mine.blk by Mine.blk_eq
name_quick tw5736407798762289528 for Mine.blk by Mine.blk_eq
name_quick tw4841608483596896988 for Mine.blk by Mine.blk_eq
name_quick tw12296728618847696761 for Mine.blk by Mine.blk_eq
name_quick tw9249553802937061307 for Mine.blk by Mine.blk_eq
name_quick tw6348685521300091022 for Mine.blk by Mine.blk_eq
name_quick tw14843722373977536959 for Mine.blk by Mine.blk_eq
name_quick tw12286716685032941320 for Mine.blk by Mine.blk_eq
name_quick tw6431602227632030956 for Mine.blk by Mine.blk_eq
name_quick tw14580368152464143365 for Mine.blk by Mine.blk_eq
name_quick tw10006666124156027396 for Mine.blk by Mine.blk_eq
name_quick tw10549654758806909271 for Mine.blk by Mine.blk_eq
namespace Mine
open PySem PySem.W PyProof.Rows in
open_top hd for PySem.Challenge.rw_pd0120_01
end Mine
section P1_
open PySem
namespace Mine
theorem join_mem_len (sep : Str) : ∀ (l : List Str) (y : Str), y ∈ l → y.length ≤ (Str.join sep l).length
  | [], _, h => nomatch h
  | [x], y, h => by
    have : y = x := by simpa using h
    subst this; exact Nat.le_refl _
  | x :: z :: r, y, h => by
    show y.length ≤ (x ++ sep ++ Str.join sep (z :: r)).length
    rw [Str.length_append, Str.length_append]
    rcases List.mem_cons.mp h with rfl | h
    · omega
    · have := join_mem_len sep (z :: r) y h
      omega
theorem split_mem_len (x sep : Str) {y : Str} (h : y ∈ Txt.split x sep) : y.length ≤ x.length := by
  have := join_mem_len sep _ y h
  rwa [StrLaws.join_split] at this
theorem join_sum_len (sep : Str) : ∀ (l : List Str), (l.map (·.length)).sum ≤ (Str.join sep l).length
  | [] => Nat.zero_le _
  | [x] => by
    show x.length + 0 ≤ x.length
    omega
  | x :: z :: r => by
    show x.length + ((z :: r).map (·.length)).sum ≤ (x ++ sep ++ Str.join sep (z :: r)).length
    rw [Str.length_append, Str.length_append]
    have := join_sum_len sep (z :: r)
    omega
theorem split_sum_len (x sep : Str) : ((Txt.split x sep).map (·.length)).sum ≤ x.length := by
  have := join_sum_len sep (Txt.split x sep)
  rwa [StrLaws.join_split] at this
def normStep (acc : List Str) (c : Str) : List Str := if (c.length : Int) = 0 ∨ c = Str.ofString "." then acc else if c = Str.ofString ".." then acc.dropLast else acc ++ [c]
def wt (l : List Str) : Nat := (l.map (·.length)).sum + l.length * 64
theorem wt_append (a b : List Str) : wt (a ++ b) = wt a + wt b := by
  unfold wt
  rw [List.map_append, List.sum_append, List.length_append, Nat.add_mul]
  omega
theorem wt_cons (c : Str) (l : List Str) : wt (c :: l) = c.length + 64 + wt l := by
  unfold wt
  simp only [List.map_cons, List.sum_cons, List.length_cons, Nat.succ_mul]
  omega
theorem wt_dropLast (l : List Str) : wt l.dropLast ≤ wt l := by
  rcases List.eq_nil_or_concat l with rfl | ⟨l', z, rfl⟩
  · exact Nat.le_refl _
  · rw [List.concat_eq_append, List.dropLast_concat, wt_append]; omega
theorem wt_step (acc : List Str) (c : Str) : wt (normStep acc c) ≤ wt acc + (c.length + 64) := by
  unfold normStep
  split
  · omega
  · split
    · have := wt_dropLast acc; omega
    · rw [wt_append, wt_cons]; have : wt [] = 0 := rfl; omega
theorem wt_fold : ∀ (l acc : List Str), wt (l.foldl normStep acc) ≤ wt acc + wt l
  | [], acc => by have : wt [] = 0 := rfl; simp only [List.foldl_nil]; omega
  | c :: l, acc => by
    rw [List.foldl_cons]
    have h1 := wt_fold l (normStep acc c)
    have h2 := wt_step acc c
    rw [wt_cons]
    omega
theorem split_count (x y : Str) : (Txt.split x y).length ≤ x.length + 2 := PyProof.Rows.split_le x y
theorem wt_norm (x : Str) : wt ((Txt.split x (Str.ofString "/")).foldl normStep []) ≤ x.length + (x.length + 2) * 64 := by
  have h1 := wt_fold (Txt.split x (Str.ofString "/")) []
  have h0 : wt [] = 0 := rfl
  have h2 := split_sum_len x (Str.ofString "/")
  have h3 := split_count x (Str.ofString "/")
  have h4 : wt (Txt.split x (Str.ofString "/")) = ((Txt.split x (Str.ofString "/")).map (·.length)).sum + (Txt.split x (Str.ofString "/")).length * 64 := rfl
  have h5 := Nat.mul_le_mul_right 64 h3
  omega
theorem join_len_wt (sep : Str) (h : sep.length ≤ 64) (l : List Str) : (Txt.join sep l).length ≤ wt l := by
  show (Builtin.Str.glued sep l).length ≤ _
  rw [StrLaws.glued_eq_join]
  refine Nat.le_trans (StrLaws.join_length_le sep l) ?_
  unfold wt
  have := Nat.mul_le_mul_left l.length h
  omega
end Mine
end P1_

section P2_
open PySem
namespace Mine
/-- a text from its signs -/
def mk (l : List Nat) : Str := ⟨l.toArray⟩
theorem mk_cps (l : List Nat) : (mk l).cps.toList = l := by simp [mk]
theorem mk_toList (x : Str) : mk x.cps.toList = x := by cases x; simp [mk]
theorem mk_append (a b : List Nat) : mk (a ++ b) = mk a ++ mk b := Str.ext' (by simp [mk, Str.cps_append])
theorem mk_len (l : List Nat) : (mk l).length = l.length := by simp [mk, Str.length]
theorem mk_inj {a b : List Nat} (h : mk a = mk b) : a = b := by
  have := congrArg (fun s : Str => s.cps.toList) h
  simpa [mk] using this
def splitL (c : Nat) : List Nat → List (List Nat)
  | [] => [[]]
  | x :: l => if x = c then [] :: splitL c l else match splitL c l with
    | [] => [[x]]
    | p :: r => (x :: p) :: r
theorem splitL_ne (c : Nat) : ∀ l, splitL c l ≠ []
  | [] => by simp [splitL]
  | x :: l => by
    unfold splitL
    split
    · simp
    · split <;> simp
def joinL (c : Nat) : List (List Nat) → List Nat
  | [] => []
  | [p] => p
  | p :: q :: r => p ++ c :: joinL c (q :: r)
theorem splitL_free (c : Nat) : ∀ (p : List Nat), c ∉ p → splitL c p = [p]
  | [], _ => rfl
  | x :: p, h => by
    have hx : x ≠ c := fun e => h (by simp [e])
    have ih := splitL_free c p (fun h' => h (List.mem_cons_of_mem _ h'))
    unfold splitL
    rw [if_neg hx, ih]
theorem splitL_cat (c : Nat) : ∀ (p l : List Nat), c ∉ p → splitL c (p ++ c :: l) = p :: splitL c l
  | [], l, _ => by simp [splitL]
  | x :: p, l, h => by
    have hx : x ≠ c := fun e => h (by simp [e])
    have ih := splitL_cat c p l (fun h' => h (List.mem_cons_of_mem _ h'))
    show (if x = c then [] :: splitL c (p ++ c :: l) else match splitL c (p ++ c :: l) with | [] => [[x]] | p :: r => (x :: p) :: r) = _
    rw [if_neg hx, ih]
theorem splitL_join (c : Nat) : ∀ (ps : List (List Nat)), ps ≠ [] → (∀ p ∈ ps, c ∉ p) → splitL c (joinL c ps) = ps
  | [], h, _ => absurd rfl h
  | [p], _, h => splitL_free c p (h p (by simp))
  | p :: q :: r, _, h => by
    show splitL c (p ++ c :: joinL c (q :: r)) = _
    rw [splitL_cat c p _ (h p (by simp)), splitL_join c (q :: r) (by simp) fun p hp => h p (List.mem_cons_of_mem _ hp)]
theorem join_list (c : Nat) : ∀ (ps : List Str), (Str.join ⟨#[c]⟩ ps).cps.toList = joinL c (ps.map (·.cps.toList))
  | [] => rfl
  | [p] => rfl
  | p :: q :: r => by
    show (p ++ ⟨#[c]⟩ ++ Str.join ⟨#[c]⟩ (q :: r)).cps.toList = _
    rw [Str.cps_append, Str.cps_append, Array.toList_append, Array.toList_append, join_list c (q :: r)]
    simp [joinL]
theorem split_list (x : Str) (c : Nat) : (Txt.split x ⟨#[c]⟩).map (·.cps.toList) = splitL c x.cps.toList := by
  have h1 := StrLaws.join_split x ⟨#[c]⟩
  have h2 := StrLaws.split_free x c
  have h3 : Txt.split x ⟨#[c]⟩ ≠ [] := by
    have := PyProof.Rows.split_pos x ⟨#[c]⟩
    intro e
    rw [e] at this
    simp at this
  have h4 := join_list c (Txt.split x ⟨#[c]⟩)
  rw [h1] at h4
  rw [h4, splitL_join c _ (by simpa using h3)]
  intro p hp
  obtain ⟨q, hq, rfl⟩ := List.mem_map.mp hp
  exact h2 q hq
theorem split_eq (x : Str) (c : Nat) : Txt.split x ⟨#[c]⟩ = (splitL c x.cps.toList).map mk := by
  rw [← split_list, List.map_map]
  conv => lhs; rw [← List.map_id (Txt.split x ⟨#[c]⟩)]
  exact List.map_congr_left fun y _ => (mk_toList y).symm
end Mine
end P2_

section P3_
open PySem
namespace Mine
def replL (c : Nat) (z : List Nat) (l : List Nat) : List Nat := l.flatMap fun d => if d = c then z else [d]
def joinZ (z : List Nat) : List (List Nat) → List Nat
  | [] => []
  | [p] => p
  | p :: q :: r => p ++ z ++ joinZ z (q :: r)
theorem joinZ_cons (z : List Nat) (x : Nat) (p : List Nat) : ∀ r, joinZ z ((x :: p) :: r) = x :: joinZ z (p :: r)
  | [] => rfl
  | q :: r => rfl
theorem joinZ_split (c : Nat) (z : List Nat) : ∀ l, joinZ z (splitL c l) = replL c z l
  | [] => rfl
  | x :: l => by
    have ih := joinZ_split c z l
    by_cases hx : x = c
    · have e : splitL c (x :: l) = [] :: splitL c l := by
        show (if x = c then [] :: splitL c l else _) = _
        rw [if_pos hx]
      rw [e]
      obtain ⟨p, r, hp⟩ := List.exists_cons_of_ne_nil (splitL_ne c l)
      rw [hp] at ih ⊢
      show [] ++ z ++ joinZ z (p :: r) = _
      rw [ih]
      simp [replL, hx]
    · obtain ⟨p, r, hp⟩ := List.exists_cons_of_ne_nil (splitL_ne c l)
      have e : splitL c (x :: l) = (x :: p) :: r := by
        show (if x = c then [] :: splitL c l else match splitL c l with | [] => [[x]] | p :: r => (x :: p) :: r) = _
        rw [if_neg hx, hp]
      rw [hp] at ih
      rw [e, joinZ_cons, ih]
      simp [replL, hx]
theorem join_listZ (z : Str) : ∀ (ps : List Str), (Str.join z ps).cps.toList = joinZ z.cps.toList (ps.map (·.cps.toList))
  | [] => rfl
  | [p] => rfl
  | p :: q :: r => by
    show (p ++ z ++ Str.join z (q :: r)).cps.toList = _
    rw [Str.cps_append, Str.cps_append, Array.toList_append, Array.toList_append, join_listZ z (q :: r)]
    simp [joinZ]
theorem replace_list (x z : Str) (c : Nat) : (Txt.replace x ⟨#[c]⟩ z).cps.toList = replL c z.cps.toList x.cps.toList := by
  rw [StrLaws.replace_one, join_listZ, split_list, joinZ_split]
theorem replL_len (c : Nat) (z : List Nat) (hz : z.length ≤ 5) : ∀ l, (replL c z l).length ≤ 5 * l.length
  | [] => by simp [replL]
  | x :: l => by
    have := replL_len c z hz l
    have e : replL c z (x :: l) = (if x = c then z else [x]) ++ replL c z l := by simp [replL]
    rw [e, List.length_append, List.length_cons]
    split
    · omega
    · rw [List.length_singleton]; omega
theorem replace_len (x z : Str) (c : Nat) (hz : z.length ≤ 5) : (Txt.replace x ⟨#[c]⟩ z).length ≤ 5 * x.length := by
  have h := replL_len c z.cps.toList (by simpa [Str.length] using hz) x.cps.toList
  rw [← replace_list] at h
  simpa [Str.length] using h
end Mine
end P3_

section P4_
open PySem
namespace Mine
def safeC (c : Nat) : Bool := [46, 47, 97, 98, 99, 105, 115, 116, 120, 121].contains c
/-- one word read off: the states 0 (between words), 1 (in a word), 2, 3 (within quotes) -/
def tokF : List Nat → Nat → List Nat → Bool → Option (Option (List Nat) × List Nat)
  | [], st, _, _ => if st = 0 then some (none, []) else none
  | c :: l, 0, tok, q => if c = 32 then tokF l 0 tok q else if c = 39 then tokF l 2 tok q else if safeC c then tokF l 1 [c] q else none
  | c :: l, 1, tok, q => if c = 32 then (if tok = [] ∧ q = false then none else some (some tok, l)) else if c = 39 then tokF l 2 tok q else if c = 34 then tokF l 3 tok q else if safeC c then tokF l 1 (tok ++ [c]) q else none
  | c :: l, 2, tok, _ => if c = 39 then tokF l 1 tok true else if safeC c = true ∨ c = 32 ∨ c = 34 then tokF l 2 (tok ++ [c]) true else none
  | c :: l, _, tok, _ => if c = 34 then tokF l 1 tok true else if c = 39 then tokF l 3 (tok ++ [c]) true else none
abbrev inS (X y : Str) : Bool := !(Builtin.Str.occurrences X y 0 X.length 1).isEmpty
abbrev WCH : Str := Str.ofString "abcdfeghijklmnopqrstuvwxyzABCDEFGHIJKLMNOPQRSTUVWXYZ0123456789_ßàáâãäåæçèéêëìíîïðñòóôõöøùúûüýþÿÀÁÂÃÄÅÆÇÈÉÊËÌÍÎÏÐÑÒÓÔÕÖØÙÚÛÜÝÞ"
structure CF (y : Str) (ws wch qu : Bool) : Prop where
  nl : (y == Str.ofString "\n") = false
  l1 : 1 ≤ y.length
  l2 : y.length ≤ 1
  hws : inS (Str.ofString " \t\r\n") y = ws
  hco : inS (Str.ofString "") y = false
  hes : inS (Str.ofString "\\") y = false
  hwc : inS WCH y = wch
  hqu : inS (Str.ofString "'\"") y = qu
theorem inS_one (X : Str) (c : Nat) : inS X (mk [c]) = decide (c ∈ X.cps.toList) := StrLaws.found_one X c
theorem wch : WCH.cps.toList = [97, 98, 99, 100, 102, 101, 103, 104, 105, 106, 107, 108, 109, 110, 111, 112, 113, 114, 115, 116, 117, 118, 119, 120, 121, 122, 65, 66, 67, 68, 69, 70, 71, 72, 73, 74, 75, 76, 77, 78, 79, 80, 81, 82, 83, 84, 85, 86, 87, 88, 89, 90, 48, 49, 50, 51, 52, 53, 54, 55, 56, 57, 95, 223, 224, 225, 226, 227, 228, 229, 230, 231, 232, 233, 234, 235, 236, 237, 238, 239, 240, 241, 242, 243, 244, 245, 246, 248, 249, 250, 251, 252, 253, 254, 255, 192, 193, 194, 195, 196, 197, 198, 199, 200, 201, 202, 203, 204, 205, 206, 207, 208, 209, 210, 211, 212, 213, 214, 216, 217, 218, 219, 220, 221, 222] := by decide +kernel
theorem wsl : (Str.ofString " \t\r\n").cps.toList = [32, 9, 13, 10] := by decide +kernel
theorem qul : (Str.ofString "'\"").cps.toList = [39, 34] := by decide +kernel
theorem esl : (Str.ofString "\\").cps.toList = [92] := by decide +kernel
theorem col : (Str.ofString "").cps.toList = [] := by decide +kernel
theorem nlm : Str.ofString "\n" = mk [10] := by decide +kernel
theorem beq_mk {a b : Nat} (h : a ≠ b) : (mk [a] == mk [b]) = false := by
  rw [Bool.eq_false_iff]
  intro e
  have := mk_inj (eq_of_beq e)
  simp at this
  exact h this
theorem cf_of (c : Nat) (ws wc qu : Bool) (h1 : c ≠ 10) (h2 : c ≠ 92) (h3 : decide (c ∈ [32, 9, 13, 10]) = ws) (h4 : decide (c ∈ [97, 98, 99, 100, 102, 101, 103, 104, 105, 106, 107, 108, 109, 110, 111, 112, 113, 114, 115, 116, 117, 118, 119, 120, 121, 122, 65, 66, 67, 68, 69, 70, 71, 72, 73, 74, 75, 76, 77, 78, 79, 80, 81, 82, 83, 84, 85, 86, 87, 88, 89, 90, 48, 49, 50, 51, 52, 53, 54, 55, 56, 57, 95, 223, 224, 225, 226, 227, 228, 229, 230, 231, 232, 233, 234, 235, 236, 237, 238, 239, 240, 241, 242, 243, 244, 245, 246, 248, 249, 250, 251, 252, 253, 254, 255, 192, 193, 194, 195, 196, 197, 198, 199, 200, 201, 202, 203, 204, 205, 206, 207, 208, 209, 210, 211, 212, 213, 214, 216, 217, 218, 219, 220, 221, 222]) = wc) (h5 : decide (c ∈ [39, 34]) = qu) : CF (mk [c]) ws wc qu where
  nl := by rw [nlm]; exact beq_mk h1
  l1 := Nat.le_refl 1
  l2 := Nat.le_refl 1
  hws := by rw [inS_one, wsl]; exact h3
  hco := by rw [inS_one, col]; exact decide_eq_false (fun h => nomatch h)
  hes := by rw [inS_one, esl]; exact decide_eq_false (by simpa using h2)
  hwc := by rw [inS_one, wch]; exact h4
  hqu := by rw [inS_one, qul]; exact h5
theorem mk_q1 : mk [39] = Str.ofString "'" := by decide +kernel
theorem mk_q2 : mk [34] = Str.ofString "\"" := by decide +kernel
theorem cf_safe {c : Nat} (h : safeC c = true) : (∃ b, CF (mk [c]) false b false) ∧ (mk [c] == Str.ofString "'") = false ∧ (mk [c] == Str.ofString "\"") = false := by
  have h' : c ∈ [46, 47, 97, 98, 99, 105, 115, 116, 120, 121] := List.contains_iff_mem.mp h
  simp only [List.mem_cons, List.not_mem_nil, or_false] at h'
  refine ⟨⟨_, cf_of c _ _ _ ?_ ?_ ?_ rfl ?_⟩, ?_, ?_⟩
  · omega
  · omega
  · rw [decide_eq_false_iff_not]; simp; omega
  · rw [decide_eq_false_iff_not]; simp; omega
  · rw [← mk_q1]; exact beq_mk (by omega)
  · rw [← mk_q2]; exact beq_mk (by omega)
theorem cf_blank : CF (mk [32]) true false false := cf_of 32 _ _ _ (by decide) (by decide) (by decide) (by decide) (by decide)
theorem cf_q1 : CF (mk [39]) false false true := cf_of 39 _ _ _ (by decide) (by decide) (by decide) (by decide) (by decide)
theorem cf_q2 : CF (mk [34]) false false true := cf_of 34 _ _ _ (by decide) (by decide) (by decide) (by decide) (by decide)
theorem mk_bl : mk [32] = Str.ofString " " := by decide +kernel
theorem mk_nil : mk [] = Str.ofString "" := by decide +kernel
theorem cps_mk (l : List Nat) : (mk l).cps = l.toArray := rfl
theorem mk_length (l : List Nat) : (mk l).length = l.length := by simp [mk, Str.length]
theorem chAt_mk (pre l : List Nat) (c : Nat) : Txt.slice (mk (pre ++ c :: l)) (some (pre.length : Int)) (some ((pre.length : Int) + 1)) = mk [c] := by
  have h := PyProof.Rows.slice_closesL (x := mk (pre ++ c :: l)) (i := (pre.length : Int)) (j := (pre.length : Int) + 1) (by omega) (by omega) (by rw [mk_length]; simp only [List.length_append, List.length_cons]; omega)
  rw [eq_of_beq h]
  have e1 : ((pre.length : Int)).toNat = pre.length := by omega
  have e2 : ((pre.length : Int) + 1 - (pre.length : Int)).toNat = 1 := by omega
  rw [e1, e2, cps_mk]
  simp [mk]
end Mine
end P4_

section P5_
open PySem
namespace Mine
def stS : Nat → Str
  | 0 => Str.ofString " "
  | 1 => Str.ofString "a"
  | 2 => Str.ofString "'"
  | _ => Str.ofString "\""
theorem step0 {c : Nat} {l l' : List Nat} {r : Option (List Nat)} (h : tokF (c :: l) 0 [] false = some (r, l')) : ∃ ws wc qu, CF (mk [c]) ws wc qu ∧ (ws = true → tokF l 0 [] false = some (r, l')) ∧
    (ws = false → qu = true → mk [c] = stS 2 ∧ tokF l 2 [] false = some (r, l')) ∧ (ws = false → qu = false → tokF l 1 [c] false = some (r, l')) ∧ (wc = true → qu = false) := by
  by_cases c1 : c = 32
  · subst c1
    exact ⟨_, _, _, cf_blank, fun _ => by simpa [tokF] using h, (fun e => nomatch e), (fun e => nomatch e), (fun e => nomatch e)⟩
  · by_cases c2 : c = 39
    · subst c2
      exact ⟨_, _, _, cf_q1, (fun e => nomatch e), fun _ _ => ⟨mk_q1, by simpa [tokF] using h⟩, (fun _ e => nomatch e), (fun e => nomatch e)⟩
    · have hs : safeC c = true := by
        by_cases hs : safeC c = true
        · exact hs
        · simp [tokF, c1, c2, hs] at h
      obtain ⟨⟨b, f⟩, -, -⟩ := cf_safe hs
      exact ⟨_, _, _, f, (fun e => nomatch e), (fun _ e => nomatch e), fun _ _ => by simpa [tokF, c1, c2, hs] using h, fun _ => rfl⟩
theorem step1 {c : Nat} {l l' tok : List Nat} {q : Bool} {r : Option (List Nat)} (h : tokF (c :: l) 1 tok q = some (r, l')) : ∃ ws wc qu, CF (mk [c]) ws wc qu ∧ (ws = true → some tok = r ∧ l = l' ∧ (tok = [] → q = true)) ∧
    (ws = false → qu = true → ∃ st, (st = 2 ∨ st = 3) ∧ mk [c] = stS st ∧ tokF l st tok q = some (r, l')) ∧ (ws = false → qu = false → tokF l 1 (tok ++ [c]) q = some (r, l')) ∧ (wc = true → qu = false) := by
  by_cases c1 : c = 32
  · subst c1
    refine ⟨_, _, _, cf_blank, fun _ => ?_, (fun e => nomatch e), (fun e => nomatch e), (fun e => nomatch e)⟩
    by_cases e : tok = [] ∧ q = false
    · simp [tokF, e] at h
    · have h2 : some tok = r ∧ l = l' := by simpa [tokF, e] using h
      exact ⟨h2.1, h2.2, fun h3 => by cases q with | true => rfl | false => exact absurd ⟨h3, rfl⟩ e⟩
  · by_cases c2 : c = 39
    · subst c2
      exact ⟨_, _, _, cf_q1, (fun e => nomatch e), fun _ _ => ⟨2, .inl rfl, mk_q1, by simpa [tokF] using h⟩, (fun _ e => nomatch e), (fun e => nomatch e)⟩
    · by_cases c3 : c = 34
      · subst c3
        exact ⟨_, _, _, cf_q2, (fun e => nomatch e), fun _ _ => ⟨3, .inr rfl, mk_q2, by simpa [tokF] using h⟩, (fun _ e => nomatch e), (fun e => nomatch e)⟩
      · have hs : safeC c = true := by
          by_cases hs : safeC c = true
          · exact hs
          · simp [tokF, c1, c2, c3, hs] at h
        obtain ⟨⟨b, f⟩, -, -⟩ := cf_safe hs
        exact ⟨_, _, _, f, (fun e => nomatch e), (fun _ e => nomatch e), fun _ _ => by simpa [tokF, c1, c2, c3, hs] using h, fun _ => rfl⟩
theorem stepq {c st : Nat} {l l' tok : List Nat} {q : Bool} {r : Option (List Nat)} (hst : st = 2 ∨ st = 3) (h : tokF (c :: l) st tok q = some (r, l')) :
    ((mk [c] == Str.ofString "\n") = false ∧ 1 ≤ (mk [c]).length ∧ (mk [c]).length ≤ 1 ∧ inS (Str.ofString "\\") (mk [c]) = false) ∧
    ∃ b, (mk [c] == stS st) = b ∧ (b = true → tokF l 1 tok true = some (r, l')) ∧ (b = false → tokF l st (tok ++ [c]) true = some (r, l')) := by
  have key : ∀ {ws wc qu}, CF (mk [c]) ws wc qu → (mk [c] == Str.ofString "\n") = false ∧ 1 ≤ (mk [c]).length ∧ (mk [c]).length ≤ 1 ∧ inS (Str.ofString "\\") (mk [c]) = false := fun z => ⟨z.nl, z.l1, z.l2, z.hes⟩
  rcases hst with rfl | rfl
  · have e : stS 2 = mk [39] := mk_q1.symm
    rw [e]
    by_cases c1 : c = 39
    · subst c1
      exact ⟨key cf_q1, true, beq_self_eq_true _, fun _ => by simpa [tokF] using h, (fun e => nomatch e)⟩
    · have hs : safeC c = true ∨ c = 32 ∨ c = 34 := by
        by_cases hs : safeC c = true ∨ c = 32 ∨ c = 34
        · exact hs
        · simp [tokF, c1, hs] at h
      refine ⟨?_, false, beq_mk c1, (fun e => nomatch e), fun _ => by simpa [tokF, c1, hs] using h⟩
      rcases hs with hs | rfl | rfl
      · obtain ⟨⟨b, z⟩, -, -⟩ := cf_safe hs; exact key z
      · exact key cf_blank
      · exact key cf_q2
  · have e : stS 3 = mk [34] := mk_q2.symm
    rw [e]
    by_cases c1 : c = 34
    · subst c1
      exact ⟨key cf_q2, true, beq_self_eq_true _, fun _ => by simpa [tokF] using h, (fun e => nomatch e)⟩
    · have hs : c = 39 := by
        by_cases hs : c = 39
        · exact hs
        · simp [tokF, c1, hs] at h
      subst hs
      exact ⟨key cf_q1, false, beq_mk c1, (fun e => nomatch e), fun _ => by simpa [tokF] using h⟩
theorem stq_facts {st : Nat} (hst : st = 2 ∨ st = 3) : inS (Str.ofString "'\"") (stS st) = true ∧ (stS st == Str.ofString " ") = false := by
  rcases hst with rfl | rfl
  · exact ⟨by decide +kernel, by decide +kernel⟩
  · exact ⟨by decide +kernel, by decide +kernel⟩
end Mine
end P5_

section PC_
open PySem
namespace Mine
def stepL (acc : List (List Nat)) (p : List Nat) : List (List Nat) := if p = [46, 46] then acc.dropLast else if p = [] ∨ p = [46] then acc else acc ++ [p]
def stkL (l : List Nat) (acc : List (List Nat)) : List (List Nat) := (splitL 47 l).foldl stepL acc
theorem splitL_app (c : Nat) : ∀ (a b : List Nat), splitL c (a ++ c :: b) = splitL c a ++ splitL c b
  | [], b => by simp [splitL]
  | x :: a, b => by
    have ih := splitL_app c a b
    rw [List.cons_append]
    by_cases hx : x = c
    · rw [splitL, if_pos hx, splitL, if_pos hx, ih]; rfl
    · obtain ⟨p, r, hp⟩ := List.exists_cons_of_ne_nil (splitL_ne c a)
      rw [splitL, if_neg hx, splitL, if_neg hx, ih, hp]; rfl
theorem splitL_pieces (c : Nat) : ∀ (l : List Nat), ∀ p ∈ splitL c l, c ∉ p
  | [], p, h => by
    have : p = [] := by simpa [splitL] using h
    subst this; simp
  | x :: l, p, h => by
    have ih := splitL_pieces c l
    by_cases hx : x = c
    · rw [splitL, if_pos hx] at h
      rcases List.mem_cons.mp h with rfl | h
      · simp
      · exact ih p h
    · obtain ⟨q, r, hq⟩ := List.exists_cons_of_ne_nil (splitL_ne c l)
      rw [splitL, if_neg hx, hq] at h
      rw [hq] at ih
      rcases List.mem_cons.mp h with rfl | h
      · intro hm
        rcases List.mem_cons.mp hm with e | hm
        · exact hx e.symm
        · exact ih q (.head _) hm
      · exact ih p (.tail _ h)
theorem stkL_nil (acc : List (List Nat)) : stkL [] acc = acc := by simp [stkL, splitL, stepL]
theorem stkL_app (a b : List Nat) (acc : List (List Nat)) : stkL (a ++ 47 :: b) acc = stkL b (stkL a acc) := by
  unfold stkL; rw [splitL_app, List.foldl_append]
theorem stkL_sl (b : List Nat) (acc : List (List Nat)) : stkL (47 :: b) acc = stkL b acc := by
  have := stkL_app [] b acc
  rwa [stkL_nil] at this
theorem stkL_rep (b : List Nat) (acc : List (List Nat)) : ∀ n, stkL (List.replicate n 47 ++ b) acc = stkL b acc
  | 0 => rfl
  | n + 1 => by rw [List.replicate_succ, List.cons_append, stkL_sl, stkL_rep b acc n]
abbrev Clean (ps : List (List Nat)) : Prop := ∀ p ∈ ps, p ≠ [] ∧ p ≠ [46] ∧ p ≠ [46, 46] ∧ 47 ∉ p
theorem clean_step {acc : List (List Nat)} {p : List Nat} (h : Clean acc) (hp : 47 ∉ p) : Clean (stepL acc p) := by
  unfold stepL
  split
  · exact fun q hq => h q (List.dropLast_subset _ hq)
  · split
    · exact h
    · rename_i h1 h2
      intro q hq
      rcases List.mem_append.mp hq with hq | hq
      · exact h q hq
      · have : q = p := by simpa using hq
        subst this
        exact ⟨fun e => h2 (.inl e), fun e => h2 (.inr e), h1, hp⟩
theorem clean_fold : ∀ (l : List (List Nat)) {acc : List (List Nat)}, Clean acc → (∀ p ∈ l, 47 ∉ p) → Clean (l.foldl stepL acc)
  | [], _, h, _ => h
  | p :: l, _, h, hl => clean_fold l (clean_step h (hl p (.head _))) fun q hq => hl q (.tail _ hq)
theorem clean_stk (l : List Nat) {acc : List (List Nat)} (h : Clean acc) : Clean (stkL l acc) := clean_fold _ h (splitL_pieces 47 l)
theorem fold_clean : ∀ (ps acc : List (List Nat)), Clean ps → ps.foldl stepL acc = acc ++ ps
  | [], acc, _ => by simp
  | p :: ps, acc, h => by
    obtain ⟨h1, h2, h3, -⟩ := h p (.head _)
    have e : stepL acc p = acc ++ [p] := by simp [stepL, h1, h2, h3]
    rw [List.foldl_cons, e, fold_clean ps _ fun q hq => h q (.tail _ hq), List.append_assoc]; rfl
theorem stk_join {ps : List (List Nat)} (h : Clean ps) : stkL (joinL 47 ps) [] = ps := by
  cases ps with
  | nil => exact stkL_nil []
  | cons p r =>
    unfold stkL
    rw [splitL_join 47 (p :: r) (by simp) fun q hq => (h q hq).2.2.2, fold_clean _ _ h]; rfl
theorem join_head {ps : List (List Nat)} (h : Clean ps) : (joinL 47 ps).head? ≠ some 47 := by
  cases ps with
  | nil => simp [joinL]
  | cons p r =>
    obtain ⟨h1, -, -, h4⟩ := h p (.head _)
    obtain ⟨a, p', rfl⟩ := List.exists_cons_of_ne_nil h1
    have ha : a ≠ 47 := fun e => h4 (by simp [e])
    cases r with
    | nil => simpa [joinL] using ha
    | cons q r => simpa [joinL] using ha
abbrev rtn (n : Nat) : List Nat := if n = 2 then [47, 47] else [47]
def StL (x r : List Nat) (sk : List (List Nat)) : Prop := ∃ n b, 1 ≤ n ∧ x = List.replicate n 47 ++ b ∧ b.head? ≠ some 47 ∧ r = rtn n ∧ sk = stkL b []
def joinL2 (x y : List Nat) : List Nat := if y.head? = some 47 then y else if x.getLast? = some 47 then x ++ y else x ++ 47 :: y
abbrev lstL (y : List Nat) : List Nat := y.dropWhile (· == 47)
def rtL (r y : List Nat) : List Nat := if y.head? = some 47 then rtn (y.takeWhile (· == 47)).length else r
def skL (sk : List (List Nat)) (y : List Nat) : List (List Nat) := stkL (lstL y) (if y.head? = some 47 then [] else sk)
def normL (x : List Nat) : List Nat :=
  if x.take 1 ≠ [47] then [] else if (x.drop 1).take 1 ≠ [47] then [47] ++ joinL 47 (stkL (x.drop 1) []) else if (x.drop 2).take 1 = [47] then [47] ++ joinL 47 (stkL (x.drop 1) []) else x.take 2 ++ joinL 47 (stkL (x.drop 2) [])
theorem takeWhile_rep : ∀ (y : List Nat), y.takeWhile (· == 47) = List.replicate (y.takeWhile (· == 47)).length 47
  | [] => rfl
  | a :: y => by
    by_cases h : a = 47
    · subst h
      have := takeWhile_rep y
      rw [List.takeWhile_cons]
      simp only [beq_self_eq_true, if_true, List.length_cons, List.replicate_succ]
      rw [← this]
    · rw [List.takeWhile_cons]
      have : (a == 47) = false := by simpa using h
      rw [this]; rfl
theorem lst_head : ∀ (y : List Nat), (lstL y).head? ≠ some 47
  | [] => by simp [lstL]
  | a :: y => by
    by_cases h : a = 47
    · subst h
      have := lst_head y
      simpa [lstL, List.dropWhile_cons] using this
    · simpa [lstL, List.dropWhile_cons, h] using h
theorem lst_same {y : List Nat} (h : y.head? ≠ some 47) : lstL y = y := by
  cases y with
  | nil => rfl
  | cons a y =>
    have : a ≠ 47 := by simpa using h
    simp [lstL, this]
theorem st_join {x r : List Nat} {sk : List (List Nat)} (y : List Nat) (h : StL x r sk) : StL (joinL2 x y) (rtL r y) (skL sk y) := by
  by_cases hy : y.head? = some 47
  · unfold joinL2 rtL skL
    rw [if_pos hy, if_pos hy, if_pos hy]
    refine ⟨(y.takeWhile (· == 47)).length, lstL y, ?_, ?_, lst_head y, rfl, rfl⟩
    · obtain ⟨a, y', rfl⟩ := List.exists_cons_of_ne_nil (by intro e; rw [e] at hy; simp at hy : y ≠ [])
      have : a = 47 := by simpa using hy
      subst this
      simp
    · rw [← takeWhile_rep]; exact (List.takeWhile_append_dropWhile).symm
  · unfold joinL2 rtL skL
    rw [if_neg hy, if_neg hy, if_neg hy, lst_same hy]
    obtain ⟨n, b, hn, rfl, hb, rfl, rfl⟩ := h
    by_cases hx : (List.replicate n 47 ++ b).getLast? = some 47
    · rw [if_pos hx]
      rcases List.eq_nil_or_concat b with rfl | ⟨b', z, rfl⟩
      · exact ⟨n, y, hn, by simp, hy, rfl, by rw [stkL_nil]⟩
      · rw [List.concat_eq_append, ← List.append_assoc, List.getLast?_append] at hx
        have hz : z = 47 := by simpa using hx
        subst hz
        rw [List.concat_eq_append] at hb
        rw [List.concat_eq_append]
        refine ⟨n, b' ++ 47 :: y, hn, by simp, ?_, rfl, ?_⟩
        · cases b' with
          | nil => simp at hb
          | cons a b' => simpa using hb
        · rw [stkL_app b' [] [], stkL_nil, stkL_app b' y []]
    · rw [if_neg hx]
      have hb0 : b ≠ [] := by
        intro e
        subst e
        obtain ⟨n, rfl⟩ : ∃ m, n = m + 1 := ⟨n - 1, by omega⟩
        rw [List.append_nil, List.replicate_succ', List.getLast?_append] at hx
        simp at hx
      refine ⟨n, b ++ 47 :: y, hn, by simp, ?_, rfl, ?_⟩
      · obtain ⟨a, b', rfl⟩ := List.exists_cons_of_ne_nil hb0
        simpa using hb
      · rw [stkL_app]
theorem st_clean {x r : List Nat} {sk : List (List Nat)} (h : StL x r sk) : Clean sk := by
  obtain ⟨n, b, -, -, -, -, rfl⟩ := h
  exact clean_stk b fun p hp => nomatch hp
theorem take1 {b : List Nat} (hb : b.head? ≠ some 47) : b.take 1 ≠ [47] := by
  cases b with
  | nil => simp
  | cons a b => simpa using hb
theorem st_norm {x r : List Nat} {sk : List (List Nat)} (h : StL x r sk) : normL x = r ++ joinL 47 sk := by
  obtain ⟨n, b, hn, rfl, hb, rfl, rfl⟩ := h
  unfold normL
  match n, hn with
  | 1, _ =>
    have e : List.replicate 1 47 ++ b = 47 :: b := rfl
    rw [e, if_neg (by simp), if_pos (by simpa using take1 hb)]
    rfl
  | 2, _ =>
    have e : List.replicate 2 47 ++ b = 47 :: 47 :: b := rfl
    rw [e, if_neg (by simp), if_neg (by simp), if_neg (by simpa using take1 hb)]
    rfl
  | n + 3, _ =>
    have e : List.replicate (n + 3) 47 ++ b = 47 :: 47 :: 47 :: (List.replicate n 47 ++ b) := rfl
    have e2 : rtn (n + 3) = [47] := by simp [rtn]
    rw [e, e2, if_neg (by simp), if_neg (by simp), if_pos (by simp)]
    show [47] ++ joinL 47 (stkL (47 :: 47 :: (List.replicate n 47 ++ b)) []) = _
    rw [stkL_sl, stkL_sl, stkL_rep]
theorem st_again {x r : List Nat} {sk : List (List Nat)} (h : StL x r sk) : StL (r ++ joinL 47 sk) r sk := by
  have hc := st_clean h
  obtain ⟨n, b, hn, rfl, hb, rfl, rfl⟩ := h
  by_cases h2 : n = 2
  · subst h2
    exact ⟨2, _, by omega, rfl, join_head hc, rfl, (stk_join hc).symm⟩
  · exact ⟨1, _, by omega, by simp [rtn, h2], join_head hc, by simp [rtn, h2], (stk_join hc).symm⟩
theorem st_start : StL [47] [47] [] := ⟨1, [], by omega, rfl, by simp, rfl, by rw [stkL_nil]⟩
end Mine
end PC_

section PT_
open PySem
namespace Mine
abbrev goodC (c : Nat) : Prop := safeC c = true ∨ c = 32 ∨ c = 34 ∨ c = 39
abbrev QR : List Nat := [39, 34, 39, 34, 39]
def quoteL (w : List Nat) : List Nat := if w = [] then [39, 39] else if w.all safeC = true then w else 39 :: (replL 39 QR w ++ [39])
theorem safe_ne {c : Nat} (h : safeC c = true) : c ≠ 32 ∧ c ≠ 34 ∧ c ≠ 39 := by
  refine ⟨?_, ?_, ?_⟩ <;> (intro e; subst e; exact absurd h (by decide))
theorem tok1_safe : ∀ (w tok rest : List Nat), (∀ c ∈ w, safeC c = true) → tok ≠ [] → tokF (w ++ 32 :: rest) 1 tok false = some (some (tok ++ w), rest)
  | [], tok, rest, _, ht => by simp [tokF, ht]
  | c :: w, tok, rest, h, _ => by
    have hc := h c (.head _)
    obtain ⟨h1, h2, h3⟩ := safe_ne hc
    have ih := tok1_safe w (tok ++ [c]) rest (fun d hd => h d (.tail _ hd)) (by simp)
    rw [List.cons_append]
    simp only [tokF, h1, h2, h3, if_false, hc, if_true]
    rw [ih, List.append_assoc]; rfl
theorem tok0_safe (w rest : List Nat) (h : ∀ c ∈ w, safeC c = true) (hw : w ≠ []) : tokF (w ++ 32 :: rest) 0 [] false = some (some w, rest) := by
  obtain ⟨c, w', rfl⟩ := List.exists_cons_of_ne_nil hw
  have hc := h c (.head _)
  obtain ⟨h1, h2, h3⟩ := safe_ne hc
  rw [List.cons_append]
  simp only [tokF, h1, h3, if_false, hc, if_true]
  exact tok1_safe w' [c] rest (fun d hd => h d (.tail _ hd)) (by simp)
theorem replL_cons (c : Nat) (z : List Nat) (x : Nat) (l : List Nat) : replL c z (x :: l) = (if x = c then z else [x]) ++ replL c z l := by simp [replL]
theorem tok2 : ∀ (w tok rest : List Nat), (∀ c ∈ w, goodC c) → tokF (replL 39 QR w ++ 39 :: 32 :: rest) 2 tok true = some (some (tok ++ w), rest)
  | [], tok, rest, _ => by simp [replL, tokF]
  | c :: w, tok, rest, h => by
    have hc := h c (.head _)
    have ih := tok2 w (tok ++ [c]) rest (fun d hd => h d (.tail _ hd))
    rw [replL_cons]
    by_cases e : c = 39
    · subst e
      rw [if_pos rfl]
      have e2 : QR ++ replL 39 QR w ++ 39 :: 32 :: rest = 39 :: 34 :: 39 :: 34 :: 39 :: (replL 39 QR w ++ 39 :: 32 :: rest) := rfl
      rw [e2]
      simp only [tokF, if_true, if_false, show ¬ (34 : Nat) = 39 from by decide, show ¬ (34 : Nat) = 32 from by decide, show ¬ (39 : Nat) = 34 from by decide, show ¬ (39 : Nat) = 32 from by decide]
      rw [ih, List.append_assoc]; rfl
    · rw [if_neg e]
      have e3 : safeC c = true ∨ c = 32 ∨ c = 34 := by
        rcases hc with h | h | h | h
        · exact .inl h
        · exact .inr (.inl h)
        · exact .inr (.inr h)
        · exact absurd h e
      have e2 : [c] ++ replL 39 QR w ++ 39 :: 32 :: rest = c :: (replL 39 QR w ++ 39 :: 32 :: rest) := rfl
      rw [e2, tokF, if_neg e, if_pos e3, ih, List.append_assoc]; rfl
theorem tok2' (w rest : List Nat) (hw : w ≠ []) (h : ∀ c ∈ w, goodC c) : tokF (replL 39 QR w ++ 39 :: 32 :: rest) 2 [] false = some (some w, rest) := by
  obtain ⟨c, w', rfl⟩ := List.exists_cons_of_ne_nil hw
  have key : ∀ (d : Nat) (l : List Nat), tokF (d :: l) 2 [] false = tokF (d :: l) 2 [] true := by
    intro d l
    by_cases e : d = 39
    · subst e; simp [tokF]
    · simp [tokF, e]
  have hd : ∃ d l, replL 39 QR (c :: w') ++ 39 :: 32 :: rest = d :: l := by
    rw [replL_cons]
    split
    · exact ⟨39, _, rfl⟩
    · exact ⟨c, _, rfl⟩
  obtain ⟨d, l, e⟩ := hd
  rw [e, key, ← e, tok2 _ _ _ h]; rfl
theorem tok_quote (w rest : List Nat) (h : ∀ c ∈ w, goodC c) : tokF (quoteL w ++ 32 :: rest) 0 [] false = some (some w, rest) := by
  unfold quoteL
  split
  · rename_i e; subst e; simp [tokF]
  · rename_i hw
    split
    · rename_i hs
      exact tok0_safe w rest (by simpa using hs) hw
    · have e2 : 39 :: (replL 39 QR w ++ [39]) ++ 32 :: rest = 39 :: (replL 39 QR w ++ 39 :: 32 :: rest) := by simp
      rw [e2, tokF]
      simp only [show ¬ (39 : Nat) = 32 from by decide, if_false, if_true]
      exact tok2' w rest hw h
theorem tok_blank (l : List Nat) : ∀ n, tokF (List.replicate n 32 ++ l) 0 [] false = tokF l 0 [] false
  | 0 => rfl
  | n + 1 => by
    rw [List.replicate_succ, List.cons_append, tokF, if_pos rfl, tok_blank l n]
def lineL : List (List Nat) → Nat → List Nat
  | [], _ => []
  | w :: ws, k => quoteL w ++ (List.replicate (1 + k % 2) 32 ++ lineL ws (k + 1))
end Mine
end PT_

section EQ_
open PySem PySem.W PyProof.Rows PySem.Calls PyProof.V PySem.Spec
namespace Mine
abbrev OkAll (ns : List Str) : Prop := ∀ x ∈ ns, PyData.strOk x = true
theorem se_canLayAll0 : ∀ ns : List Str, OkAll ns → PyData.canLayAll0 (ns.map PyData.str) = true
  | [], _ => rfl
  | x :: r, h => by simp [PyData.canLayAll0, PyData.canLay0, se_canLayAll0 r fun y hy => h y (.tail _ hy), h x (.head _)]
theorem se_depthAll : ∀ ns : List Str, PyData.depthAll (ns.map PyData.str) = 0
  | [] => rfl
  | _ :: r => by simp [PyData.depthAll, PyData.depth, se_depthAll r]
theorem se_shaped (ns : List Str) (h : OkAll ns) : SeqAt.shaped (.list (ns.map PyData.str)) = true := by
  simp [SeqAt.shaped, PyData.canLay0, PyData.depth, se_canLayAll0 ns h, se_depthAll]
theorem se_sameAll : ∀ ns ms : List Str, PySem.Spec.sameAll (ns.map PyData.str) (ms.map PyData.str) = decide (ns = ms)
  | [], [] => by simp [PySem.Spec.sameAll]
  | [], _ :: _ => by simp [PySem.Spec.sameAll]
  | _ :: _, [] => by simp [PySem.Spec.sameAll]
  | a :: r, b :: t => by
    simp only [List.map_cons, PySem.Spec.sameAll, PySem.Spec.same, se_sameAll r t]
    by_cases h : a = b <;> by_cases h' : r = t <;> simp [h, h']
theorem se_same (ns ms : List Str) : PySem.Spec.same (.list (ns.map PyData.str)) (.list (ms.map PyData.str)) = decide (ns = ms) := by
  simp only [PySem.Spec.same]; exact se_sameAll ns ms
theorem se_carried : ∀ {vs : List Value} {ns : List Str}, StrsAre vs ns → CarriedAll vs (ns.map PyData.str)
  | _, _, .nil => .nil
  | _, _, .cons _ t r => .cons (.str _ t) (se_carried r)
section
variable {prog : Program} {w : World} {A : Around} {E : Value → Shared → Prop} {s : Shared} {a b : Addr} {xs ys : List Value} {ns ms : List Str} {Q : Value → Shared → Prop}
theorem se_eq (ha : s.heap.IsList a xs.toArray) (hb : s.heap.IsList b ys.toArray) (hi : StrsAre xs ns) (hj : StrsAre ys ms) (h1 : OkAll ns) (h2 : OkAll ms) (hu : A.units + 64 < cLine) (h : Q (.bool (decide (ns = ms))) s) :
    wpAny (model prog w) A (compareOp .Eq (.ref a) (.ref b)) Q E s :=
  eq_dataH_same (reads_newData ha (se_carried hi)) (reads_newData hb (se_carried hj)) (se_shaped _ h1) (se_shaped _ h2) hu (SeqAt.noMix_of_shape (.list .str) rfl _ _ (list_map_has fun _ => rfl) (list_map_has fun _ => rfl)) (by rw [se_same]; exact h)
theorem se_ne (ha : s.heap.IsList a xs.toArray) (hb : s.heap.IsList b ys.toArray) (hi : StrsAre xs ns) (hj : StrsAre ys ms) (h1 : OkAll ns) (h2 : OkAll ms) (hu : A.units + 64 < cLine) (h : Q (.bool (!decide (ns = ms))) s) :
    wpAny (model prog w) A (compareOp .NotEq (.ref a) (.ref b)) Q E s :=
  ne_dataH_same (reads_newData ha (se_carried hi)) (reads_newData hb (se_carried hj)) (se_shaped _ h1) (se_shaped _ h2) hu (SeqAt.noMix_of_shape (.list .str) rfl _ _ (list_map_has fun _ => rfl) (list_map_has fun _ => rfl)) (by rw [se_same]; exact h)
end
end Mine
end EQ_

open PySem PySem.W PyProof.Rows
namespace Mine
theorem fill_in : PySem.Challenge.rw_pd0120_01 = PySem.Challenge.rw_pd0120_01 ∧ hd.heap_39 = hd.heap_39 := by
  w_top off
  k_fill
  exact ⟨rfl, rfl⟩
local macro_rules | `(tactic| walk_at $s:str) => `(tactic| k_extra $s)
local macro_rules | `(tactic| k_ne) => `(tactic| (refine neN ?_; (try dsimp only); first | with_reducible assumption | (refine Ne.symm ?_; with_reducible assumption) | omega))
local macro_rules | `(tactic| x_close) => `(tactic| solve_by_elim)
section M1_
noncomputable abbrev LS : List Str := looseW hd.view_39
      [Str.ofString "check_arg_types_genericpath", Str.ofString "join_posixpath", Str.ofString "_initial_missing",
        Str.ofString "reduce", Str.ofString "_twin_re_1", Str.ofString "UnsupportedOperation", Str.ofString "IOBase",
        Str.ofString "BufferedIOBase", Str.ofString "TextIOBase", Str.ofString "BytesIO", Str.ofString "StringIO",
        Str.ofString "check_arg_types_path", Str.ofString "join_path", Str.ofString "shlex", Str.ofString "split",
        Str.ofString "_find_unsafe"]
abbrev PG : Program := PySem.Challenge.pw_pd0120_01

abbrev TClaim (w : World) (mean : ExcName → Option Value) (mg mb : Str → Option Value) (news : List (Addr × Obj)) (f : Addr) (room : Nat) (vs : List Value)
    (post : (Value → Shared → Prop) → Heap → Addr → (Str → Option Value) → Shared → Prop) : Prop :=
  ∀ (dp un : Nat) (gd : Option (List Code)) (cn : Str) (cs : Scope) (a : Addr) (ccd : Value) (cl : List (Str × Addr)) (outer : List Env) (A₀ : Around) (base h₀ : Heap) (L : Addr) (m : Str → Option Value) (s : Shared) (Q E : Value → Shared → Prop),
    Below A₀ base outer h₀ → Fr h₀ L s.heap m → (hd.heap_39 w.params).In h₀ → News h₀ L s.heap news → Top hd.view_39 LS mean mg mb h₀ → cs.kind = .function →
    dp + room < recursionLimit → un + 8 * room < cLine → post Q h₀ L m s →
    wpAny (model PG w) (ktrTop dp un gd cn cs L a ccd cl outer) (call (.ref f) vs) Q E s

abbrev rText (news : List (Addr × Obj)) (r : Str) : (Value → Shared → Prop) → Heap → Addr → (Str → Option Value) → Shared → Prop :=
  fun Q h₀ L m s => ∀ (t : Tok) (h' : Heap) (tk' : Nat), Fr h₀ L h' m → News h₀ L h' news → Q (.str r t) { s with heap := h', toks := tk' }

section
variable {prog : Program} {w : World} {A : Around} {E : Value → Shared → Prop} {s : Shared} {Q : Value → Shared → Prop} {h₀ : Heap} {L D : Addr} {news : List (Addr × Obj)}
open PySem.W.X in
theorem issub_str (hD : s.heap.get? D = some ⟨.type "tuple", none, .seq #[.type "str", .type "bytes"] 0, #[]⟩) (h : ∀ tk, Q (.bool true) {s with toks := tk}) :
   wpAny (model prog w) A (call (.builtin "issubclass") [.type "str", .ref D]) Q E s := by
  x_run
theorem issub_K (N : News h₀ L s.heap news) (hm : (D, ({ cls := Value.type "tuple", data := Data.seq #[Value.type "str", Value.type "bytes"] } : Obj)) ∈ news) (h : ∀ tk, Q (.bool true) {s with toks := tk}) :
   wpAny (model prog w) A (call (.builtin "issubclass") [.type "str", .ref D]) Q E s := issub_str (N.get hm) h
end
theorem lines_1 : True := by
  k_with_none
  k_with "call builtin:issubclass" => (k_here; (with_reducible show wpAny _ _ (call (Value.builtin "issubclass") [Value.type "str", Value.ref _]) _ _ _); k_dflt (refine' issub_K ?k1 ?k2 ?_; (case k1 => k_asm); (case k2 => k_mem); k_whole); intro _)
  trivial
theorem fspath_C (w : World) (mean : ExcName → Option Value) (mg mb : Str → Option Value) (news : List (Addr × Obj)) (x : Str) (tx : Tok) :
    TClaim w mean mg mb news 117 1 [.str x tx] (fun Q h₀ L m s => ∀ (h' : Heap) (tk' : Nat), Fr h₀ L h' m → News h₀ L h' news → Q (.str x tx) { s with heap := h', toks := tk' }) := by
  dsimp only [TClaim]
  intros
  rename_i hret
  refine wpAny_call ?_
  k_dflt cell_enter
  k_steps
  refine hret _ _ (by k_asm) (cb_drop (by assumption) (by kcj_all))
theorem TClaim.use {w : World} {mean : ExcName → Option Value} {mg mb : Str → Option Value} {news : List (Addr × Obj)} {f : Addr} {room : Nat} {vs : List Value}
    {post : (Value → Shared → Prop) → Heap → Addr → (Str → Option Value) → Shared → Prop} (C : TClaim w mean mg mb news f room vs post)
    {dp un : Nat} {gd : Option (List Code)} {cn : Str} {cs : Scope} {a : Addr} {ccd : Value} {cl : List (Str × Addr)} {outer : List Env} {A₀ : Around} {base h₀ : Heap} {L : Addr} {m : Str → Option Value} {s : Shared} {Q E : Value → Shared → Prop}
    (B : Below A₀ base outer h₀) (F : Fr h₀ L s.heap m) (X : (hd.heap_39 w.params).In h₀) (N : News h₀ L s.heap news) (T : Top hd.view_39 LS mean mg mb h₀) (hk : cs.kind = .function)
    (hd : dp + room < recursionLimit) (hu : un + 8 * room < cLine) (hp : post Q h₀ L m s) :
    wpAny (model PG w) (ktrTop dp un gd cn cs L a ccd cl outer) (call (.ref f) vs) Q E s := C _ _ _ _ _ _ _ _ _ _ _ _ _ _ _ _ _ B F X N T hk hd hu hp
theorem lines_2 : True := by
  k_with "call ref" => (k_here; (with_reducible show wpAny _ _ (call (Value.ref 117) [Value.str _ _]) _ _ _); k_dflt (refine' TClaim.use (fspath_C _ _ _ _ _ _ _) ?k1 ?k2 ?k3 ?k4 ?k5 ?k6 ?k7 ?k8 ?_; (case k1 => k_asm); (case k2 => k_asm); (case k3 => k_asm); (case k4 => k_asm); (case k5 => k_asm); (case k6 => first | exact rfl | assumption); (case k7 => ktr_room); (case k8 => ktr_units); k_whole); (intro _ _ _ _); (try k_sweep))
  trivial
def rootOf (x : Str) : Str := if (Txt.slice x none (some 1) != Str.ofString "/") = true then Str.ofString "" else if (Txt.slice x (some 1) (some 2) != Str.ofString "/") = true then Str.ofString "/" else if (Txt.slice x (some 2) (some 3) == Str.ofString "/") = true then Str.ofString "/" else Txt.slice x none (some 2)
def restOf (x : Str) : Str := if (Txt.slice x none (some 1) != Str.ofString "/") = true then x else if (Txt.slice x (some 1) (some 2) != Str.ofString "/") = true then Txt.slice x (some 1) none else if (Txt.slice x (some 2) (some 3) == Str.ofString "/") = true then Txt.slice x (some 1) none else Txt.slice x (some 2) none
abbrev tup3 (a b c : Value) : Obj := { cls := Value.type "tuple", data := Data.seq #[a, b, c] }
theorem splitroot_C (w : World) (mean : ExcName → Option Value) (mg mb : Str → Option Value) (news : List (Addr × Obj)) (x : Str) (tx : Tok) (hx : x.length ≤ 100000) :
    TClaim w mean mg mb news 145 3 [.str x tx] (fun Q h₀ L m s => ∀ (D : Addr) (t₀ t₁ t₂ : Tok) (r₁ r₂ : Str) (h' : Heap) (tk' : Nat), r₁ = rootOf x → r₂ = restOf x → Fr h₀ L h' m → News h₀ L h' ((D, tup3 (.str (Str.ofString "") t₀) (.str r₁ t₁) (.str r₂ t₂)) :: news) → (∀ p ∈ news, p.1 < D) → r₂.length ≤ x.length → Q (.ref D) { s with heap := h', toks := tk' }) := by
  dsimp only [TClaim]
  intros
  rename_i hret
  refine wpAny_call ?_
  k_dflt cell_enter
  k_steps
  all_goals (refine hret _ _ _ _ _ _ _ _ ?e1 ?e2 (by k_asm) (by assumption) (by assumption) (by first | exact Nat.le_refl _ | assumption); (case e1 => simp only [rootOf, *, if_true, if_false, Bool.false_eq_true]); (case e2 => simp only [restOf, *, if_true, if_false, Bool.false_eq_true]))
end M1_

section M2_
structure TEnd (h₀ : Heap) (L : Addr) (s₁ : Shared) (its : List (Addr × Obj)) (rest : (Str → Option Value) → List (Addr × Obj) → Prop) (s₂ : Shared) : Prop where
  out : UnrEndW h₀ L s₁ its rest s₂
def TPost (h₀ : Heap) (L : Addr) (s₁ : Shared) (its : List (Addr × Obj)) (rest : (Str → Option Value) → List (Addr × Obj) → Prop) (Q : Flow → Shared → Prop) (f : Flow) (s₂ : Shared) : Prop :=
  match f with
  | .ret v => Q (.ret v) s₂
  | .brk => Q .next s₂
  | _ => TEnd h₀ L s₁ its rest s₂
theorem tend {h₀ h' : Heap} {L : Addr} {m' : Str → Option Value} {rest : (Str → Option Value) → List (Addr × Obj) → Prop} {s₁ : Shared} {tk : Nat} {its news' : List (Addr × Obj)}
    (F : Fr h₀ L h' m') (N : News h₀ L h' (its ++ news')) (off : ∀ p ∈ news', ∀ q ∈ its, p.1 ≠ q.1) (r : rest m' news') :
    TEnd h₀ L s₁ its rest { s₁ with heap := h', toks := tk } := ⟨⟨h', tk, m', news', rfl, F, N, off, r⟩⟩
abbrev mf (xv : Str) (m₀ : Str → Option Value) (u : Option Value) : Str → Option Value := fun z => if z = xv then u else m₀ z
theorem mform {xv : Str} {v u : Option Value} {m₀ : Str → Option Value} : ∃ u', (fun y => if y = xv then v else mf xv m₀ u y) = mf xv m₀ u' := ⟨v, by
  funext z
  by_cases h : z = xv <;> simp [h, mf]⟩
section
variable {prog : Program} {w : World} {A : Around} {E : Value → Shared → Prop} {h₀ : Heap} {env : Env} {target : Expr} {body : List Stmt} {Q : Flow → Shared → Prop} {s : Shared}
theorem for_strs (xv : Str) {ax : Addr} {vs : List Value} {n : Nat} {xs : List Str} {m₀ : Str → Option Value} {news : List (Addr × Obj)} (J : List Str → List (Addr × Obj) → Prop)
    (hh : A.handled = none) (F : Fr h₀ env.locals s.heap m₀) (N : News h₀ env.locals s.heap news) (hm : (ax, listOf vs.toArray n) ∈ news) (hv : StrsAre vs xs)
    (turn : ∀ (I : Addr) (o : Obj) (pre : List Str) (x : Str) (t : Tok) (u : Option Value) (nw : List (Addr × Obj)) (h : Heap) (tk : Nat), (∀ p ∈ news, p.1 < I) → x ∈ xs → pre.length < xs.length → J pre nw →
      Fr h₀ env.locals h (mf xv m₀ u) → News h₀ env.locals h ((I, o) :: nw) →
      wpAny (model prog w) A (assign target env (.str x t)) (fun _ s₂ => wpAny (model prog w) A (execs body env)
        (TPost h₀ env.locals { s with heap := h, toks := tk } [(I, o)] (fun m' n' => (∃ u', m' = mf xv m₀ u') ∧ (ax, listOf vs.toArray n) ∈ n' ∧ J (pre ++ [x]) n') Q) E s₂) E { s with heap := h, toks := tk })
    (done : ∀ (u : Option Value) (nw : List (Addr × Obj)) (h : Heap) (tk : Nat), J xs nw → Fr h₀ env.locals h (mf xv m₀ u) → News h₀ env.locals h nw → Q .next { s with heap := h, toks := tk })
    (h0 : J [] news) : wpAny (model prog w) A (pyIter (.ref ax)) (fun it s₂ => TurnsAt prog w A h₀ env target body Q E it s₂) E s := by
  refine iter_listTurns hh F N hm rfl rfl (fun I hI => ?_)
  have key : ∀ (vs' : List Value) (ys : List Str), StrsAre vs' ys → ∀ (pre : List Str) (u : Option Value) (nw : List (Addr × Obj)), pre ++ ys = xs → J pre nw →
      ItemsRest prog w A E h₀ env target body Q s [(I, "list_iterator")] [(ax, listOf vs.toArray n)] (vs'.map .val) (mf xv m₀ u) nw := by
    intro vs' ys h
    induction h with
    | nil => intro pre u nw e hJ; rw [List.append_nil] at e; subst e; exact ItemsRest.zero fun h tk F' N' => done u nw h tk hJ F' N'
    | cons y t r ih =>
      rename_i vs₁ ys₁
      intro pre u nw e hJ
      refine ItemsRest.val (fun h tk F' => AllObj.cons (fun o hc => AllObj.nil (fun N' => ?_)))
      refine wpAny_mono (turn I o pre y t u nw h tk hI (by rw [← e]; simp) (by rw [← e, List.length_append, List.length_cons]; omega) hJ F' N') (fun _ s₂ h₂ => wpAny_mono h₂ (fun f s₃ p => ?_) fun _ _ e => e) fun _ _ e => e
      have fin : TEnd h₀ env.locals { s with heap := h, toks := tk } [(I, o)] (fun m' n' => (∃ u', m' = mf xv m₀ u') ∧ (ax, listOf vs.toArray n) ∈ n' ∧ J (pre ++ [y]) n') s₃ →
          UnrEndW h₀ env.locals { s with heap := h, toks := tk } [(I, o)] (fun m' n' => SubL [(ax, listOf vs.toArray n)] n' ∧ ItemsRest prog w A E h₀ env target body Q s [(I, "list_iterator")] [(ax, listOf vs.toArray n)] (vs₁.map .val) m' n') s₃ := by
        rintro ⟨⟨h', tk', m', n', e', F₂, N₂, off, ⟨u', rfl⟩, hk, hJ'⟩⟩
        exact ⟨h', tk', _, n', e', F₂, N₂, off, ⟨hk, trivial⟩, ih (pre ++ [y]) u' n' (by rw [← e]; simp) hJ'⟩
      cases f with
      | ret v => exact p
      | brk => exact p
      | next => exact fin p
      | cont => exact fin p
  have em : m₀ = mf xv m₀ (m₀ xv) := by
    funext z
    by_cases h : z = xv
    · simp [mf, h]
    · simp [mf, h]
  rw [em]
  exact key vs xs hv [] (m₀ xv) news rfl h0
end
theorem allLt_ne {d : Nat} : ∀ {l : List (Addr × Obj)}, AllLt d l → ∀ p ∈ l, p.1 ≠ d
  | [], _, _, h => nomatch h
  | q :: l, ⟨h1, h2⟩, p, hp => by
    rcases List.mem_cons.mp hp with rfl | hp
    · exact Nat.ne_of_lt h1
    · exact allLt_ne h2 p hp
theorem rootOf_len (x : Str) : (rootOf x).length ≤ x.length + 1 := by
  unfold rootOf
  have h1 : (Str.ofString "").length = 0 := by decide +kernel
  have h2 : (Str.ofString "/").length = 1 := by decide +kernel
  have h3 := Txt.slice_le x none (some 2)
  repeat' split
  all_goals omega
theorem ns_skip {acc : List Str} {y : Str} (h : (y.length : Int) = 0 ∨ (y == Str.ofString ".") = true) : normStep acc y = acc := by
  unfold normStep
  rw [if_pos]
  rcases h with h | h
  · exact .inl h
  · exact .inr (eq_of_beq h)
theorem ns_app {acc : List Str} {y : Str} (h0 : (y.length : Int) ≠ 0) (h1 : (y == Str.ofString ".") = false) (h2 : (y != Str.ofString "..") = true) : normStep acc y = acc ++ [y] := by
  unfold normStep
  have h1' : y ≠ Str.ofString "." := fun e => by rw [e] at h1; simp at h1
  have h2' : y ≠ Str.ofString ".." := fun e => by rw [e] at h2; simp at h2
  rw [if_neg (by rintro (h | h); exact h0 h; exact h1' h), if_neg h2']
theorem ns_pop {acc : List Str} {y : Str} (h0 : (y.length : Int) ≠ 0) (h1 : (y == Str.ofString ".") = false) (h2 : (y != Str.ofString "..") = false) : normStep acc y = acc.dropLast := by
  unfold normStep
  have h1' : y ≠ Str.ofString "." := fun e => by rw [e] at h1; simp at h1
  have h2' : y = Str.ofString ".." := by simpa using h2
  rw [if_neg (by rintro (h | h); exact h0 h; exact h1' h), if_pos h2']
theorem strsAre_last : ∀ {vs : List Value} {xs : List Str}, StrsAre vs xs → vs = [] ∧ xs = [] ∨ ∃ vs' z t xs', vs = vs' ++ [.str z t] ∧ xs = xs' ++ [z] ∧ StrsAre vs' xs'
  | _, _, .nil => .inl ⟨rfl, rfl⟩
  | _, _, .cons y t r => by
    rcases strsAre_last r with ⟨rfl, rfl⟩ | ⟨vs', z, u, xs', rfl, rfl, h⟩
    · exact .inr ⟨[], y, t, [], rfl, rfl, .nil⟩
    · exact .inr ⟨.str y t :: vs', z, u, y :: xs', rfl, rfl, .cons y t h⟩
theorem strsAre_len : ∀ {vs : List Value} {xs : List Str}, StrsAre vs xs → vs.length = xs.length
  | _, _, .nil => rfl
  | _, _, .cons y t r => by simp [strsAre_len r]
section
variable {prog : Program} {w : World} {A : Around} {E : Value → Shared → Prop} {s : Shared} {h₀ : Heap} {L : Addr} {news : List (Addr × Obj)}
theorem truthy_strs {a : Addr} {ws : List Value} {n : Nat} {acc : List Str} {Q : Bool → Shared → Prop} (N : News h₀ L s.heap news) (hm : (a, listOf ws.toArray n) ∈ news) (hs : StrsAre ws acc) (hl : ws.length < 2 ^ 62)
    (h0 : ws = [] → acc = [] → Q false { s with toks := s.toks + 1 + 1 }) (h1 : ∀ ws' z t acc', ws = ws' ++ [.str z t] → acc = acc' ++ [z] → StrsAre ws' acc' → Q true { s with toks := s.toks + 1 + 1 }) :
    wpAny (model prog w) A (truthy (.ref a)) Q E s := by
  refine kgr_truthy N hm rfl rfl hl ?_
  rcases strsAre_last hs with ⟨e1, e2⟩ | ⟨ws', z, t, acc', e1, e2, h⟩
  · have := h0 e1 e2
    rw [e1]; exact this
  · have := h1 ws' z t acc' e1 e2 h
    rw [e1, show (ws' ++ [Value.str z t]).isEmpty = false from by cases ws' <;> rfl]; exact this
theorem truthy_snoc {a : Addr} {ws : List Value} {v : Value} {n : Nat} {Q : Bool → Shared → Prop} (N : News h₀ L s.heap news) (hm : (a, listOf (ws ++ [v]).toArray n) ∈ news) (hl : (ws ++ [v]).length < 2 ^ 62)
    (h1 : Q true { s with toks := s.toks + 1 + 1 }) : wpAny (model prog w) A (truthy (.ref a)) Q E s := by
  refine kgr_truthy N hm rfl rfl hl ?_
  rw [show (ws ++ [v]).isEmpty = false from by cases ws <;> rfl]; exact h1
theorem last_snoc {value slice : Expr} {a : Addr} {ws : List Value} {v : Value} {n : Nat} {u : Tok} {Q : Value → Shared → Prop} (N : News h₀ L s.heap news) (hm : (a, listOf (ws ++ [v]).toArray n) ∈ news) (h : Q v s)
    (hs : subscripted slice false (.ref a) (.int (-1) u) = operate [.ref a, .int (-1) u] (getItem (.ref a) (.int (-1) u)) := by with_unfolding_all rfl) (hg : ∀ r, letTemporaryGo value (.ref a) r = pure () := by intro _; with_unfolding_all rfl) :
    wpAny (model prog w) A (subscriptTail value slice (.ref a) (.int (-1) u)) Q E s := by
  refine kim_back (l := ws ++ [v]) N hm rfl rfl (by decide) (by simp only [List.length_append, List.length_cons, List.length_nil]; omega) (by decide) ?_ h hs hg
  have e : ((-1 : Int) + ((ws ++ [v]).length : Int)).toNat = ws.length := by simp only [List.length_append, List.length_cons, List.length_nil]; omega
  rw [e]; simp
theorem append_L {D : Addr} {m : Str → Option Value} {news' : List (Addr × Obj)} {ws : List Value} {v : Value} {n : Nat} {Q : Value → Shared → Prop} (F : Fr h₀ L s.heap m) (N : News h₀ L s.heap news)
    (U : Upd D (listOf ws.toArray n) (listOf (ws ++ [v]).toArray (n + 1)) news news') (hz : ws.length ≤ sizeLine) (h : ∀ h', Fr h₀ L h' m → News h₀ L h' news' → Q .none { s with heap := h' }) :
    wpAny (model prog w) A (call (.builtin "list.append") [.ref D, v]) Q E s :=
  append_K F N (by rw [List.push_toArray]; exact U) h (by rw [List.size_toArray]; exact hz)
theorem pop_snoc {D : Addr} {m : Str → Option Value} {news' : List (Addr × Obj)} {ws : List Value} {v : Value} {n : Nat} {Q : Value → Shared → Prop} (F : Fr h₀ L s.heap m) (N : News h₀ L s.heap news)
    (U : Upd D (listOf (ws ++ [v]).toArray n) (listOf ws.toArray (n + 1)) news news') (hz : (ws ++ [v]).length ≤ sizeLine) (h : ∀ h', Fr h₀ L h' m → News h₀ L h' news' → Q v { s with heap := h' }) :
    wpAny (model prog w) A (call (.builtin "list.pop") [.ref D]) Q E s :=
  kl_pop F N (p := ws) (y := v) (by simpa using kpa_last v ws) U (by simpa using hz) h
end
end M2_

section M2b_
open PySem.Calls
abbrev mf2 (a b : Str) (M : Str → Option Value) (u v : Option Value) : Str → Option Value := fun z => if z = a then u else if z = b then v else M z
theorem mform2 {a b : Str} {M : Str → Option Value} {u v u' v' : Option Value} (e : a ≠ b) : (fun y => if y = b then v' else if y = a then u' else mf2 a b M u v y) = mf2 a b M u' v' := by
  funext z
  by_cases h1 : z = a
  · subst h1; simp [mf2, e]
  · by_cases h2 : z = b
    · subst h2; simp [mf2, h1]
    · simp [mf2, h1, h2]
abbrev itObj (l : Addr) : Obj := { cls := .type "list_iterator", data := .fields #[.ref l, .int 0 0] }
section
variable {prog : Program} {w : World} {A : Around} {E : Value → Shared → Prop} {h₀ : Heap} {env : Env} {target : Expr} {body : List Stmt} {Q : Flow → Shared → Prop} {s : Shared}
theorem iter_list_call {L : Addr} {m : Str → Option Value} {news : List (Addr × Obj)} {l : Addr} {vs : List Value} {n : Nat} {Q : Value → Shared → Prop} (F : Fr h₀ L s.heap m) (N : News h₀ L s.heap news) (hm : (l, listOf vs.toArray n) ∈ news)
    (h : ∀ (I : Addr) h', Fr h₀ L h' m → News h₀ L h' ((I, itObj l) :: news) → (∀ p ∈ news, p.1 < I) → Q (.ref I) { s with heap := h' }) :
    wpAny (model prog w) A (call (.builtin "iter") [.ref l]) Q E s := by
  refine call_function_entry (by decide +kernel) (by decide +kernel) kdk_entry_iter (kdk_args_iter _) ?_
  unfold Builtin.«iter»
  refine wpAny_bind (m := someArgs "iter" 1 2 _) (wpAny_of_eq (a := [Value.ref l]) (by first | rfl | kernel_rfl!) ?_)
  show wpAny _ _ (pyIter (.ref l) >>= _) _ _ _
  refine wpAny_bind (wpAny_pyIter_list ⟨_, (N _ hm).1, rfl, n, rfl⟩ ?_)
  exact wpAny_pure ⟨_, rfl, h _ _ (F.push _) (News.push F N _ rfl) (fun q hq => Heap.lt_size (N q hq).1)⟩
theorem iter_itTurns {I ax : Addr} {lo : Obj} {vs : List Value} {n : Nat} {m₀ : Str → Option Value} {news : List (Addr × Obj)}
    (hh : A.handled = none) (F : Fr h₀ env.locals s.heap m₀) (N : News h₀ env.locals s.heap ((I, itObj ax) :: news)) (hm : (ax, lo) ∈ news) (hc : lo.cls = .type "list") (hd : lo.data = .seq vs.toArray n) (hI : ∀ p ∈ news, p.1 ≠ I)
    (rest₀ : ItemsRest prog w A E h₀ env target body Q s [(I, "list_iterator")] [(ax, lo)] (vs.map .val) m₀ news) :
    wpAny (model prog w) A (pyIter (.ref I)) (fun it s₂ => TurnsAt prog w A h₀ env target body Q E it s₂) E s := by
  have hax := N _ (.tail _ hm)
  have hit := N _ (.head _)
  have hl : s.heap.IsList ax vs.toArray := ⟨lo, hax.1, hc, n, hd⟩
  have hli : s.heap.IsListIter I ax 0 := ⟨_, hit.1, rfl, rfl⟩
  have hne : ax ≠ I := hI _ hm
  refine wpAny_pyIter_listiter hli ?_
  refine ktu_core (tk0 := s.toks) (keep := [(ax, lo)]) (KTurns.ofWalks (Walks.list hh I ax hne vs.toArray) fun i v s Q E st q => letGo_listiter st.1 q) (by simp) (fun i v h hp => ⟨.val v, ?_, rfl⟩) (fun i h st => ?_) (fun b hb => ?_) (fun b hb => by simpa using hb) (fun b hb => ?_) ?_ (fun p hp hI' => ?_) ?_ F (fun p hp => N p (.tail _ hp)) (And.intro hm trivial) rest₀
  · have hp' : vs.toArray[i]? = some v := hp
    simpa using hp'
  · obtain ⟨it, hit, hic, _⟩ := st.1
    exact ⟨[(I, it)], ⟨⟨rfl, hic⟩, trivial⟩, fun p hp => by rw [List.mem_singleton.mp hp]; exact hit⟩
  · have hb' : b = I := by simpa using hb
    rw [hb']
    exact ⟨List.mem_cons_self .., hit.2.2⟩
  · have hb' : b = I ∨ b = ax := by simpa using hb
    rcases hb' with e | e
    · exact .inl (by simp [e])
    · exact .inr ⟨lo, by simp [e]⟩
  · intro hI'
    rcases List.mem_cons.mp hI' with e | hI'
    · exact hit.2.1 e.symm
    · exact hax.2.1 (List.mem_singleton.mp hI').symm
  · exact hI p hp (List.mem_singleton.mp hI')
  · exact ⟨hli, hl⟩
theorem items_strs {I ax : Addr} {lo : Obj} {vs : List Value} {xs : List Str} {m₀ : Str → Option Value} {news : List (Addr × Obj)} (J : List Str → (Str → Option Value) → List (Addr × Obj) → Prop) (hv : StrsAre vs xs)
    (turn : ∀ (o : Obj) (pre : List Str) (x : Str) (t : Tok) (rs : List Str) (m : Str → Option Value) (nw : List (Addr × Obj)) (h : Heap) (tk : Nat), xs = pre ++ x :: rs → J pre m nw →
      Fr h₀ env.locals h m → News h₀ env.locals h ((I, o) :: nw) →
      wpAny (model prog w) A (assign target env (.str x t)) (fun _ s₂ => wpAny (model prog w) A (execs body env)
        (TPost h₀ env.locals { s with heap := h, toks := tk } [(I, o)] (fun m' n' => (ax, lo) ∈ n' ∧ J (pre ++ [x]) m' n') Q) E s₂) E { s with heap := h, toks := tk })
    (done : ∀ (m : Str → Option Value) (nw : List (Addr × Obj)) (h : Heap) (tk : Nat), J xs m nw → Fr h₀ env.locals h m → News h₀ env.locals h nw → Q .next { s with heap := h, toks := tk })
    (h0 : J [] m₀ news) : ItemsRest prog w A E h₀ env target body Q s [(I, "list_iterator")] [(ax, lo)] (vs.map .val) m₀ news := by
  have key : ∀ (vs' : List Value) (ys : List Str), StrsAre vs' ys → ∀ (pre : List Str) (m : Str → Option Value) (nw : List (Addr × Obj)), pre ++ ys = xs → J pre m nw →
      ItemsRest prog w A E h₀ env target body Q s [(I, "list_iterator")] [(ax, lo)] (vs'.map .val) m nw := by
    intro vs' ys h
    induction h with
    | nil => intro pre m nw e hJ; rw [List.append_nil] at e; subst e; exact ItemsRest.zero fun h tk F' N' => done m nw h tk hJ F' N'
    | cons y t r ih =>
      rename_i vs₁ ys₁
      intro pre m nw e hJ
      refine ItemsRest.val (fun h tk F' => AllObj.cons (fun o hc => AllObj.nil (fun N' => ?_)))
      refine wpAny_mono (turn o pre y t ys₁ m nw h tk e.symm hJ F' N') (fun _ s₂ h₂ => wpAny_mono h₂ (fun f s₃ p => ?_) fun _ _ e => e) fun _ _ e => e
      have fin : TEnd h₀ env.locals { s with heap := h, toks := tk } [(I, o)] (fun m' n' => (ax, lo) ∈ n' ∧ J (pre ++ [y]) m' n') s₃ →
          UnrEndW h₀ env.locals { s with heap := h, toks := tk } [(I, o)] (fun m' n' => SubL [(ax, lo)] n' ∧ ItemsRest prog w A E h₀ env target body Q s [(I, "list_iterator")] [(ax, lo)] (vs₁.map .val) m' n') s₃ := by
        rintro ⟨⟨h', tk', m', n', e', F₂, N₂, off, hk, hJ'⟩⟩
        exact ⟨h', tk', _, n', e', F₂, N₂, off, ⟨hk, trivial⟩, ih (pre ++ [y]) m' n' (by rw [← e]; simp) hJ'⟩
      cases f with
      | ret v => exact p
      | brk => exact p
      | next => exact fin p
      | cont => exact fin p
  exact key vs xs hv [] m₀ news rfl h0
theorem items_strs2 (a b : Str) (hab : a ≠ b) {I ax : Addr} {lo : Obj} {vs : List Value} {xs : List Str} {m₀ : Str → Option Value} {news : List (Addr × Obj)} {v₀ : Value} (J : List Str → Value → List (Addr × Obj) → Prop) (hv : StrsAre vs xs)
    (turn : ∀ (o : Obj) (pre : List Str) (x : Str) (t : Tok) (rs : List Str) (u : Option Value) (v : Value) (nw : List (Addr × Obj)) (h : Heap) (tk : Nat), xs = pre ++ x :: rs → J pre v nw →
      Fr h₀ env.locals h (mf2 a b m₀ u (some v)) → News h₀ env.locals h ((I, o) :: nw) →
      wpAny (model prog w) A (assign target env (.str x t)) (fun _ s₂ => wpAny (model prog w) A (execs body env)
        (TPost h₀ env.locals { s with heap := h, toks := tk } [(I, o)] (fun m' n' => (ax, lo) ∈ n' ∧ ∃ u' v', m' = mf2 a b m₀ u' (some v') ∧ J (pre ++ [x]) v' n') Q) E s₂) E { s with heap := h, toks := tk })
    (done : ∀ (u : Option Value) (v : Value) (nw : List (Addr × Obj)) (h : Heap) (tk : Nat), J xs v nw → Fr h₀ env.locals h (mf2 a b m₀ u (some v)) → News h₀ env.locals h nw → Q .next { s with heap := h, toks := tk })
    (hb : m₀ b = some v₀) (h0 : J [] v₀ news) : ItemsRest prog w A E h₀ env target body Q s [(I, "list_iterator")] [(ax, lo)] (vs.map .val) m₀ news := by
  refine items_strs (fun pre m nw => ∃ u v, m = mf2 a b m₀ u (some v) ∧ J pre v nw) hv ?_ ?_ ⟨m₀ a, v₀, ?_, h0⟩
  · rintro o pre x t rs m nw h tk e ⟨u, v, rfl, hJ⟩ F N
    exact turn o pre x t rs u v nw h tk e hJ F N
  · rintro m nw h tk ⟨u, v, rfl, hJ⟩ F N
    exact done u v nw h tk hJ F N
  · funext z
    by_cases h1 : z = a
    · simp [mf2, h1]
    · by_cases h2 : z = b
      · subst h2; simp [mf2, h1, hb]
      · simp [mf2, h1, h2]
end
end M2b_

local macro_rules | `(tactic| k_all) => `(tactic| exact allLt_ne (by with_reducible assumption))
section M3_
theorem lines_3 : True := by
  k_with_none
  k_with "call builtin:issubclass" => (k_here; (with_reducible show wpAny _ _ (call (Value.builtin "issubclass") [Value.type "str", Value.ref _]) _ _ _); k_dflt (refine' issub_K ?k1 ?k2 ?_; (case k1 => k_asm); (case k2 => k_mem); k_whole); intro _)
  k_with "call ref" => (k_here; (with_reducible show wpAny _ _ (call (Value.ref 117) [Value.str _ _]) _ _ _); k_dflt (refine' TClaim.use (fspath_C _ _ _ _ _ _ _) ?k1 ?k2 ?k3 ?k4 ?k5 ?k6 ?k7 ?k8 ?_; (case k1 => k_asm); (case k2 => k_asm); (case k3 => k_asm); (case k4 => k_asm); (case k5 => k_asm); (case k6 => first | exact rfl | assumption); (case k7 => ktr_room); (case k8 => ktr_units); k_whole); (intro _ _ _ _); (try k_sweep))
  k_with "call ref" => ((k_here; (with_reducible show wpAny _ _ (call (Value.ref 145) [Value.str _ _]) _ _ _); k_dflt (refine' TClaim.use (splitroot_C _ _ _ _ _ _ _ (by kt_len)) ?k1 ?k2 ?k3 ?k4 ?k5 ?k6 ?k7 ?k8 ?_; (case k1 => k_asm); (case k2 => k_asm); (case k3 => k_asm); (case k4 => k_asm); (case k5 => k_asm); (case k6 => first | exact rfl | assumption); (case k7 => ktr_room); (case k8 => ktr_units); k_whole); (intro _ _ _ _ _ _ _ _ e1 e2 _ _ l1 _); (try k_lt l1); (subst e1 e2); (try k_sweep)); (try (revert l1; intro _)))
  k_with "call builtin:str.split" => ((k_here; (with_reducible show wpAny _ _ (call (Value.builtin "str.split") [Value.str _ _, Value.str (PySem.Str.ofString "/") _]) _ _ _); (refine KSpl.split1 (by k_asm) (by k_asm) (by decide) ?_ (by rw [PySem.sizeLine_eq]; omega)); (intro _ _ _ _ _ _ _ _ l1); (try k_lt l1)); (try (revert l1; intro _)))
  k_with "call builtin:list.append" => (k_here; (with_reducible show wpAny _ _ (call (Value.builtin _) [Value.ref _, _]) _ _ _); k_dflt (refine' append_L ?k1 ?k2 ?k3 ?z ?_; (case k1 => k_asm); (case k2 => k_asm); (case k3 => k_upd); (case z => with_reducible assumption); k_whole); intro _ _ _; (try k_sweep))
  k_with "call builtin:list.pop" => (k_here; k_dflt (refine' pop_snoc ?k1 ?k2 ?k3 ?z ?_; (case k1 => k_asm); (case k2 => k_asm); (case k3 => k_upd); (case z => with_reducible assumption); k_whole); intro _ _ _; (try k_sweep))
  k_with "subscriptTail Name UnaryOp ref int" => (k_here; (with_reducible show wpAny _ _ (subscriptTail _ _ (Value.ref _) (Value.int _ _)) _ _ _); (with_unfolding_all refine' last_snoc ?k1 ?k2 ?_ ?k3 ?k4; (case k1 => k_asm); (case k2 => k_mem); (case k3 => with_unfolding_all rfl); (case k4 => (intro _; with_unfolding_all rfl)); k_whole))
  k_with "truthy ref" => (k_here; (with_reducible show wpAny _ _ (truthy (Value.ref _)) _ _ _); k_dflt (refine' truthy_strs ?k1 ?k2 ?k3 ?k4 ?g0 ?g1; (case k1 => k_asm); (case k2 => k_mem); (case k3 => with_reducible assumption); (case k4 => with_reducible assumption)); (case' g0 => (intro e1 _; subst e1)); (case' g1 => (intro _ _ _ _ e1 _ _; subst e1)))
  k_with "truthy ref" => (k_here; (with_reducible show wpAny _ _ (truthy (Value.ref _)) _ _ _); k_dflt (refine' truthy_snoc ?k1 ?k2 ?k4 ?_; (case k1 => k_asm); (case k2 => k_mem); (case k4 => with_reducible assumption); k_whole))
  k_with "TPost" => (dsimp only [TPost])
  k_with "execs cons" => (k_here; (try k_gentoks); (with_reducible refine wpAny_execs_cons ?_); (try dsimp only); (try k_fold))
  trivial
theorem lines_4 : True := by
  k_with "truthy str" => (k_here; (with_reducible show wpAny _ _ (PySem.truthy (Value.str _ _)) _ _ _); (refine' KXt.truthy_pos ?kxta ?kxtb ?kxtc ?_; (case kxta => with_reducible assumption); (case kxtb => with_reducible assumption); (case kxtc => exact Nat.le_of_ble_eq_true rfl)); intro _)
  k_with "call builtin:str.join" => (k_here; (with_reducible show wpAny _ _ (call (Value.builtin "str.join") [Value.str _ _, Value.ref _]) _ _ _); k_dflt (refine' join_listC ?k1 ?k2 ?k3 ?k4 ?_; (case k1 => exact News.isList (by k_asm) (by k_mem)); (case k2 => with_reducible assumption); (case k3 => decide); (case k4 => with_reducible assumption); k_whole); intro _ _)
  k_with "binaryOp Add str str" => (k_here; (with_reducible show wpAny _ _ (binaryOp Operator.Add (Value.str _ _) (Value.str _ _)) _ _ _); (refine' PyProof.Rows.add_str ?_ ?z; (case z => with_reducible assumption)); intro _ _)
  trivial
theorem nd_absurd {acc acc' : List Str} {z : Str} (hnd : ∀ z ∈ acc, z ≠ Str.ofString "..") (e : acc = acc' ++ [z]) (h : (z == Str.ofString "..") = true) : False := hnd z (by rw [e]; simp) (eq_of_beq h)
def normF (x : Str) : Str := rootOf x ++ Txt.join (Str.ofString "/") ((Txt.split (restOf x) (Str.ofString "/")).foldl normStep [])
theorem normpath_C (w : World) (mean : ExcName → Option Value) (mg mb : Str → Option Value) (news : List (Addr × Obj)) (x : Str) (tx : Tok) (hx : x.length ≤ 100000) (h1 : 1 ≤ x.length) (h2 : 1 ≤ (rootOf x).length):
    TClaim w mean mg mb news 152 5 [.str x tx] (rText news (normF x)) := by
  dsimp only [TClaim]
  intros
  rename_i hret
  refine wpAny_call ?_
  k_dflt cell_enter
  k_steps
  k_dflt (refine For_turns (by k_asm) ?_)
  k_steps
  rename_i Dt t0 t1 t2 hq1 tkk Dl lc hh1 kk ee aa ll1 hh2 ln hh3 ll2 hh4 F0 N0
  obtain ⟨ll2a, ll2b, ll2c⟩ := ll2
  have hrl : (rootOf x).length ≤ 100001 := Nat.le_trans (rootOf_len x) (by omega)
  have hpc := split_le (restOf x) (Str.ofString "/")
  have hpc2 : (Txt.split (restOf x) (Str.ofString "/")).length ≤ 100002 := by omega
  have N1 := cb_drop (news := (ln, listOf #[] 0) :: (Dl, listOf (strValues lc).toArray 0) :: news) N0 (by
    intro p hp
    rcases List.mem_cons.mp hp with rfl | hp
    · exact .head _
    · rcases List.mem_cons.mp hp with rfl | hp
      · exact .tail _ (.head _)
      · exact .tail _ (.tail _ (.tail _ hp)))
  clear N0
  with_unfolding_all refine' for_strs (Str.ofString "comp") (fun pre nw => ∃ ws n, StrsAre ws (pre.foldl normStep []) ∧ ws.length ≤ pre.length ∧ (∀ z ∈ pre.foldl normStep [], z ≠ Str.ofString "..") ∧ nw = (ln, listOf ws.toArray n) :: (Dl, listOf (strValues lc).toArray 0) :: news) ?hh F0 N1 ?hm aa ?turn ?done ?h0
  case hh => with_unfolding_all rfl
  case hm => exact .tail _ (.head _)
  case h0 => exact ⟨[], 0, .nil, Nat.le_refl _, (fun _ h => nomatch h), rfl⟩
  case turn =>
    rintro I o pre y t u nw h tk hI hy hpl ⟨ws, n, hs, hwl, hnd, rfl⟩ F N
    have hI1 : @LT.lt Nat _ ln I := hI _ (.head _)
    have hI2 : @LT.lt Nat _ Dl I := hI _ (.tail _ (.head _))
    have hcl : pre.length < 100002 := by
      rw [ee] at hpl
      omega
    have hyl : y.length ≤ 100000 := by
      rw [ee] at hy
      have := split_mem_len _ _ hy
      omega
    have hz2 : ws.length ≤ sizeLine := by rw [PySem.sizeLine_eq]; omega
    have hz3 : ws.length < 2 ^ 62 := by omega
    have hoff : ∀ o1, ∀ p ∈ (ln, o1) :: (Dl, listOf (strValues lc).toArray 0) :: news, ∀ q ∈ [(I, o)], p.1 ≠ q.1 := by
      intro o1 p hp q hq
      rw [List.mem_singleton.mp hq]
      refine Nat.ne_of_lt ?_
      rcases List.mem_cons.mp hp with rfl | hp
      · exact hI1
      · rcases List.mem_cons.mp hp with rfl | hp
        · exact hI2
        · exact hI p (.tail _ (.tail _ hp))
    have hfl : ∀ z, normStep (pre.foldl normStep []) y = z → (pre ++ [y]).foldl normStep [] = z := fun z e => by rw [List.foldl_append]; exact e
    clear F0 N1 hI
    refine (?_ : wpAny _ _ _ _ _ _)
    k_fold
    k_steps
    all_goals try (exfalso; omega)
    all_goals refine tend (by assumption) (by assumption) (hoff _) ⟨mform, .tail _ (.head _), _, _, ?_, ?_, ?_, rfl⟩
    all_goals first
      | (rw [hfl _ (ns_skip (.inr (by assumption)))]; assumption)
      | (rw [hfl _ (ns_skip (.inl (by assumption)))]; assumption)
      | (rw [hfl _ (ns_app (by assumption) (by assumption) (by assumption))]; exact kct_snoc hs)
      | (rw [hfl _ (ns_app (by assumption) (by assumption) (by assumption))]; intro z hz; rcases List.mem_append.mp hz with hz | hz; exact hnd z hz; rw [List.mem_singleton.mp hz]; simpa using (by assumption : (y != Str.ofString "..") = true))
      | (rw [hfl _ (ns_pop (by assumption) (by assumption) (by assumption))]; rename_i e2 _ _; rw [e2, List.dropLast_concat]; assumption)
      | (rw [hfl _ (ns_pop (by assumption) (by assumption) (by assumption))]; intro z hz; exact hnd z (List.dropLast_subset _ hz))
      | (rw [hfl _ (ns_pop (by assumption) (by assumption) (by assumption))]; rename_i e2 _; rw [e2]; exact .nil)
      | (simp only [List.length_append, List.length_singleton] at hwl ⊢; omega)
      | (simp only [List.length_append, List.length_singleton]; omega)
      | (rw [hfl _ (ns_pop (by assumption) (by assumption) (by assumption)), (by assumption : List.foldl normStep [] pre = _), List.dropLast_concat]; assumption)
      | (rw [hfl _ (ns_pop (by assumption) (by assumption) (by assumption)), (by assumption : List.foldl normStep [] pre = [])]; exact .nil)
      | exact (nd_absurd hnd (by assumption) (by assumption)).elim
      | omega
      | skip
  case done =>
    rintro u nw h tk ⟨ws, n, hs, hwl, hnd, rfl⟩ F N
    rw [ee] at hs
    have hw1 := wt_norm (restOf x)
    have hw2 : (((Txt.split (restOf x) (Str.ofString "/")).foldl normStep []).map (·.length)).sum + ((Txt.split (restOf x) (Str.ofString "/")).foldl normStep []).length * 64 ≤ 16777216 := by
      have : wt ((Txt.split (restOf x) (Str.ofString "/")).foldl normStep []) ≤ 16777216 := by omega
      exact this
    have hw3 : (Txt.join (Str.ofString "/") ((Txt.split (restOf x) (Str.ofString "/")).foldl normStep [])).length ≤ 10000000 := Nat.le_trans (join_len_wt _ (by decide +kernel) _) (by omega)
    have hw4 : 1 ≤ (rootOf x ++ Txt.join (Str.ofString "/") ((Txt.split (restOf x) (Str.ofString "/")).foldl normStep [])).length := by rw [Str.length_append]; omega
    have hw5 : (rootOf x ++ Txt.join (Str.ofString "/") ((Txt.split (restOf x) (Str.ofString "/")).foldl normStep [])).length ≤ 10100001 := by rw [Str.length_append]; omega
    have hs2 : StrsAre ws.toArray.toList ((Txt.split (restOf x) (Str.ofString "/")).foldl normStep []) := by simpa using hs
    have hw6 : (rootOf x).length + (Txt.join (Str.ofString "/") ((Txt.split (restOf x) (Str.ofString "/")).foldl normStep [])).length ≤ sizeLine := by rw [PySem.sizeLine_eq]; omega
    clear F0 N1 hw1
    refine (?_ : wpAny _ _ _ _ _ _)
    k_steps
    exact hret _ _ _ (by k_asm) (cb_drop (by assumption) (by kcj_all))
end M3_

section M4_
theorem lines_5 : True := by
  k_with_none
  k_with "call builtin:issubclass" => (k_here; (with_reducible show wpAny _ _ (call (Value.builtin "issubclass") [Value.type "str", Value.ref _]) _ _ _); k_dflt (refine' issub_K ?k1 ?k2 ?_; (case k1 => k_asm); (case k2 => k_mem); k_whole); intro _)
  k_with "call ref" => (k_here; (with_reducible show wpAny _ _ (call (Value.ref 117) [Value.str _ _]) _ _ _); k_dflt (refine' TClaim.use (fspath_C _ _ _ _ _ _ _) ?k1 ?k2 ?k3 ?k4 ?k5 ?k6 ?k7 ?k8 ?_; (case k1 => k_asm); (case k2 => k_asm); (case k3 => k_asm); (case k4 => k_asm); (case k5 => k_asm); (case k6 => first | exact rfl | assumption); (case k7 => ktr_room); (case k8 => ktr_units); k_whole); (intro _ _ _ _); (try k_sweep))
  k_with "call ref" => ((k_here; (with_reducible show wpAny _ _ (call (Value.ref 145) [Value.str _ _]) _ _ _); k_dflt (refine' TClaim.use (splitroot_C _ _ _ _ _ _ _ (by kt_len)) ?k1 ?k2 ?k3 ?k4 ?k5 ?k6 ?k7 ?k8 ?_; (case k1 => k_asm); (case k2 => k_asm); (case k3 => k_asm); (case k4 => k_asm); (case k5 => k_asm); (case k6 => first | exact rfl | assumption); (case k7 => ktr_room); (case k8 => ktr_units); k_whole); (intro _ _ _ _ _ _ _ _ e1 e2 _ _ l1 _); (try k_lt l1); (subst e1 e2); (try k_sweep)); (try (revert l1; intro _)))
  k_with "call builtin:str.split" => ((k_here; (with_reducible show wpAny _ _ (call (Value.builtin "str.split") [Value.str _ _, Value.str (PySem.Str.ofString "/") _]) _ _ _); (refine KSpl.split1 (by k_asm) (by k_asm) (by decide) ?_ (by rw [PySem.sizeLine_eq]; omega)); (intro _ _ _ _ _ _ _ _ l1); (try k_lt l1)); (try (revert l1; intro _)))
  k_with "call builtin:list.append" => (k_here; (with_reducible show wpAny _ _ (call (Value.builtin _) [Value.ref _, _]) _ _ _); k_dflt (refine' append_L ?k1 ?k2 ?k3 ?z ?_; (case k1 => k_asm); (case k2 => k_asm); (case k3 => k_upd); (case z => with_reducible assumption); k_whole); intro _ _ _; (try k_sweep))
  k_with "call builtin:list.pop" => (k_here; k_dflt (refine' pop_snoc ?k1 ?k2 ?k3 ?z ?_; (case k1 => k_asm); (case k2 => k_asm); (case k3 => k_upd); (case z => with_reducible assumption); k_whole); intro _ _ _; (try k_sweep))
  k_with "subscriptTail Name UnaryOp ref int" => (k_here; (with_reducible show wpAny _ _ (subscriptTail _ _ (Value.ref _) (Value.int _ _)) _ _ _); (with_unfolding_all refine' last_snoc ?k1 ?k2 ?_ ?k3 ?k4; (case k1 => k_asm); (case k2 => k_mem); (case k3 => with_unfolding_all rfl); (case k4 => (intro _; with_unfolding_all rfl)); k_whole))
  k_with "truthy ref" => (k_here; (with_reducible show wpAny _ _ (truthy (Value.ref _)) _ _ _); k_dflt (refine' truthy_strs ?k1 ?k2 ?k3 ?k4 ?g0 ?g1; (case k1 => k_asm); (case k2 => k_mem); (case k3 => with_reducible assumption); (case k4 => with_reducible assumption)); (case' g0 => (intro e1 _; subst e1)); (case' g1 => (intro _ _ _ _ e1 _ _; subst e1)))
  k_with "truthy ref" => (k_here; (with_reducible show wpAny _ _ (truthy (Value.ref _)) _ _ _); k_dflt (refine' truthy_snoc ?k1 ?k2 ?k4 ?_; (case k1 => k_asm); (case k2 => k_mem); (case k4 => with_reducible assumption); k_whole))
  k_with "TPost" => (dsimp only [TPost])
  trivial
theorem lines_6 : True := by
  k_with "truthy str" => (k_here; (with_reducible show wpAny _ _ (PySem.truthy (Value.str _ _)) _ _ _); (refine' KXt.truthy_pos ?kxta ?kxtb ?kxtc ?_; (case kxta => with_reducible assumption); (case kxtb => with_reducible assumption); (case kxtc => exact Nat.le_of_ble_eq_true rfl)); intro _)
  k_with "call builtin:str.join" => (k_here; (with_reducible show wpAny _ _ (call (Value.builtin "str.join") [Value.str _ _, Value.ref _]) _ _ _); k_dflt (refine' join_listC ?k1 ?k2 ?k3 ?k4 ?_; (case k1 => exact News.isList (by k_asm) (by k_mem)); (case k2 => with_reducible assumption); (case k3 => decide); (case k4 => with_reducible assumption); k_whole); intro _ _)
  k_with "binaryOp Add str str" => (k_here; (with_reducible show wpAny _ _ (binaryOp Operator.Add (Value.str _ _) (Value.str _ _)) _ _ _); (refine' PyProof.Rows.add_str ?_ ?z; (case z => with_reducible assumption)); intro _ _)
  trivial
theorem getsep_C (w : World) (mean : ExcName → Option Value) (mg mb : Str → Option Value) (news : List (Addr × Obj)) (x : Str) (tx : Tok) :
    TClaim w mean mg mb news 131 1 [.str x tx] (rText news (Str.ofString "/")) := by
  dsimp only [TClaim]
  intros
  rename_i hret
  refine wpAny_call ?_
  k_dflt cell_enter
  k_steps
  exact hret _ _ _ (by k_asm) (by assumption)
theorem lines_7 : True := by
  k_with "call ref" => (k_here; (with_reducible show wpAny _ _ (call (Value.ref 131) [Value.str _ _]) _ _ _); k_dflt (refine' TClaim.use (getsep_C _ _ _ _ _ _ _) ?k1 ?k2 ?k3 ?k4 ?k5 ?k6 ?k7 ?k8 ?_; (case k1 => k_asm); (case k2 => k_asm); (case k3 => k_asm); (case k4 => k_asm); (case k5 => k_asm); (case k6 => first | exact rfl | assumption); (case k7 => ktr_room); (case k8 => ktr_units); k_whole); (intro _ _ _ _ _); (try k_sweep))
  trivial
def joinF (x y : Str) : Str := if Txt.startswith y (Str.ofString "/") = true then y else if Txt.endswith x (Str.ofString "/") = true then x ++ y else x ++ (Str.ofString "/" ++ y)
theorem join_C (w : World) (mean : ExcName → Option Value) (mg mb : Str → Option Value) (news : List (Addr × Obj)) (x y : Str) (tx ty : Tok) (hx : x.length ≤ 100000) (h1 : 1 ≤ x.length) (hy : y.length ≤ 100000) :
    TClaim w mean mg mb news 138 3 [.str x tx, .str y ty] (rText news (joinF x y)) := by
  dsimp only [TClaim]
  intros
  rename_i hret
  refine wpAny_call ?_
  k_dflt (refine' kp_rest ?k1 ?k2 ?k3 ?k4 ?k5 ?kA ?kF ?kK ?k6 ?k7 ?k8 ?kV ?kP ?kG ?kB ?_ ?c2 ?c3 ?c4 ?c5; (case kA => exact rfl); (case kF => exact rfl); (case kK => assumption); (case k1 => k_asm); (case k2 => k_asm); (case k3 => k_asm); (case k4 => k_asm); (case k5 => k_asm); (case k6 => k_is); (case k7 => k_is); (case k8 => ktr_room); (case kV => kl_lit); (case kP => exact rfl); (case kG => exact fun _ => rfl); (case kB => exact fun _ => locs rfl); (case c5 => decide); (case c2 => exact rfl); (case c3 => exact rfl); (case c4 => exact rfl); k_whole; intro D' g' L' h' l1 FG' F' N' B' X' T'; (try k_lt l1); (try dsimp only); (try k_fold))
  k_steps
  k_dflt (refine For_turns (by k_asm) ?_)
  k_steps
  with_unfolding_all refine' iter_tupTurns ?h ?F ?N ?k ?c ?d ?_
  (case h => with_unfolding_all rfl)
  (case F => k_asm)
  (case N => k_asm)
  (case k => k_mem)
  (case c => exact rfl)
  (case d => exact rfl)
  intro I hI
  have hI2 : @LT.lt Nat _ D' I := hI _ (.head _)
  have hoff : ∀ o1 : Obj, ∀ p ∈ (D', ({ cls := .type "tuple", data := .seq #[.str y ty] } : Obj)) :: news, ∀ q ∈ [(I, o1)], p.1 ≠ q.1 := by
    intro o1 p hp q hq
    rw [List.mem_singleton.mp hq]
    exact Nat.ne_of_lt (hI p hp)
  clear hI
  k_steps
  all_goals with_unfolding_all refine ⟨_, _, _, (D', { cls := .type "tuple", data := .seq #[.str y ty] }) :: news, rfl, by assumption, cb_drop (by assumption) (by kcj_all), hoff _, ⟨.head _, trivial⟩, ItemsRest.zero (fun h8 tk8 F8 N8 => ?_)⟩
  all_goals k_steps
  all_goals exact cb_retS hret (by simp only [joinF, *, if_true, if_false, Bool.false_eq_true]) (by k_asm) (cb_drop (by assumption) (by kcj_all))
end M4_

section M5_
theorem lines_8 : True := by
  k_with_none
  k_with "call builtin:issubclass" => (k_here; (with_reducible show wpAny _ _ (call (Value.builtin "issubclass") [Value.type "str", Value.ref _]) _ _ _); k_dflt (refine' issub_K ?k1 ?k2 ?_; (case k1 => k_asm); (case k2 => k_mem); k_whole); intro _)
  k_with "call ref" => (k_here; (with_reducible show wpAny _ _ (call (Value.ref 117) [Value.str _ _]) _ _ _); k_dflt (refine' TClaim.use (fspath_C _ _ _ _ _ _ _) ?k1 ?k2 ?k3 ?k4 ?k5 ?k6 ?k7 ?k8 ?_; (case k1 => k_asm); (case k2 => k_asm); (case k3 => k_asm); (case k4 => k_asm); (case k5 => k_asm); (case k6 => first | exact rfl | assumption); (case k7 => ktr_room); (case k8 => ktr_units); k_whole); (intro _ _ _ _); (try k_sweep))
  k_with "call ref" => ((k_here; (with_reducible show wpAny _ _ (call (Value.ref 145) [Value.str _ _]) _ _ _); k_dflt (refine' TClaim.use (splitroot_C _ _ _ _ _ _ _ (by kt_len)) ?k1 ?k2 ?k3 ?k4 ?k5 ?k6 ?k7 ?k8 ?_; (case k1 => k_asm); (case k2 => k_asm); (case k3 => k_asm); (case k4 => k_asm); (case k5 => k_asm); (case k6 => first | exact rfl | assumption); (case k7 => ktr_room); (case k8 => ktr_units); k_whole); (intro _ _ _ _ _ _ _ _ e1 e2 _ _ l1 _); (try k_lt l1); (subst e1 e2); (try k_sweep)); (try (revert l1; intro _)))
  k_with "call builtin:str.split" => ((k_here; (with_reducible show wpAny _ _ (call (Value.builtin "str.split") [Value.str _ _, Value.str (PySem.Str.ofString "/") _]) _ _ _); (refine KSpl.split1 (by k_asm) (by k_asm) (by decide) ?_ (by rw [PySem.sizeLine_eq]; omega)); (intro _ _ _ _ _ _ _ _ l1); (try k_lt l1)); (try (revert l1; intro _)))
  k_with "call builtin:list.append" => (k_here; (with_reducible show wpAny _ _ (call (Value.builtin _) [Value.ref _, _]) _ _ _); k_dflt (refine' append_L ?k1 ?k2 ?k3 ?z ?_; (case k1 => k_asm); (case k2 => k_asm); (case k3 => k_upd); (case z => with_reducible assumption); k_whole); intro _ _ _; (try k_sweep))
  k_with "call builtin:list.pop" => (k_here; k_dflt (refine' pop_snoc ?k1 ?k2 ?k3 ?z ?_; (case k1 => k_asm); (case k2 => k_asm); (case k3 => k_upd); (case z => with_reducible assumption); k_whole); intro _ _ _; (try k_sweep))
  k_with "subscriptTail Name UnaryOp ref int" => (k_here; (with_reducible show wpAny _ _ (subscriptTail _ _ (Value.ref _) (Value.int _ _)) _ _ _); (with_unfolding_all refine' last_snoc ?k1 ?k2 ?_ ?k3 ?k4; (case k1 => k_asm); (case k2 => k_mem); (case k3 => with_unfolding_all rfl); (case k4 => (intro _; with_unfolding_all rfl)); k_whole))
  k_with "truthy ref" => (k_here; (with_reducible show wpAny _ _ (truthy (Value.ref _)) _ _ _); k_dflt (refine' truthy_strs ?k1 ?k2 ?k3 ?k4 ?g0 ?g1; (case k1 => k_asm); (case k2 => k_mem); (case k3 => with_reducible assumption); (case k4 => with_reducible assumption)); (case' g0 => (intro e1 _; subst e1)); (case' g1 => (intro _ _ _ _ e1 _ _; subst e1)))
  k_with "truthy ref" => (k_here; (with_reducible show wpAny _ _ (truthy (Value.ref _)) _ _ _); k_dflt (refine' truthy_snoc ?k1 ?k2 ?k4 ?_; (case k1 => k_asm); (case k2 => k_mem); (case k4 => with_reducible assumption); k_whole))
  k_with "TPost" => (dsimp only [TPost])
  trivial
theorem lines_9 : True := by
  k_with "truthy str" => (k_here; (with_reducible show wpAny _ _ (PySem.truthy (Value.str _ _)) _ _ _); (refine' KXt.truthy_pos ?kxta ?kxtb ?kxtc ?_; (case kxta => with_reducible assumption); (case kxtb => with_reducible assumption); (case kxtc => exact Nat.le_of_ble_eq_true rfl)); intro _)
  k_with "call builtin:str.join" => (k_here; (with_reducible show wpAny _ _ (call (Value.builtin "str.join") [Value.str _ _, Value.ref _]) _ _ _); k_dflt (refine' join_listC ?k1 ?k2 ?k3 ?k4 ?_; (case k1 => exact News.isList (by k_asm) (by k_mem)); (case k2 => with_reducible assumption); (case k3 => decide); (case k4 => with_reducible assumption); k_whole); intro _ _)
  k_with "binaryOp Add str str" => (k_here; (with_reducible show wpAny _ _ (binaryOp Operator.Add (Value.str _ _) (Value.str _ _)) _ _ _); (refine' PyProof.Rows.add_str ?_ ?z; (case z => with_reducible assumption)); intro _ _)
  k_with "MY enter" => (refine' code_def ?k1 ?k2 ?k3 ?k4 ?k5 ?kA ?kF ?kK ?k6 ?k7 ?k8 ?k9 ?kB ?_ ?c2 ?c3 ?c4 ?c5; (case kA => exact rfl); (case kF => exact rfl); (case kK => assumption); (case k1 => k_asm); (case k2 => k_asm); (case k3 => k_asm); (case k4 => k_asm); (case k5 => k_asm); (case k6 => k_is); (case k7 => k_is); (case k8 => ktr_room); (case k9 => first | exact BindsTo.of_eq rfl | exact binds_K (by k_in) rfl (by k_is) rfl rfl rfl); (case c5 => decide); (case kB => exact locs rfl); (case c2 => exact rfl); (case c3 => exact rfl); (case c4 => exact rfl); k_whole; intro _ _ _ _ _ _ _ _ _; (try dsimp only); (try k_fold))
  k_with "compareOp Is" => (k_here; (with_reducible show wpAny _ _ (compareOp CmpOp.Is (Value.str _ _) (Value.ref _)) _ _ _); refine wpAny_is_other (by rfl) (by intro x; cases x) ?_)
  k_with "exec For Name Name cons nil" => (k_here; (with_unfolding_all refine' For_turns (by k_asm) ?_; k_whole))
  k_with "call ref" => (k_here; (with_reducible show wpAny _ _ (call (Value.ref 138) [Value.str _ _, Value.str _ _]) _ _ _); k_dflt (refine' TClaim.use (join_C _ _ _ _ _ _ _ _ _ (by with_reducible assumption) (by with_reducible assumption) (by with_reducible assumption)) ?k1 ?k2 ?k3 ?k4 ?k5 ?k6 ?k7 ?k8 ?_; (case k1 => k_asm); (case k2 => k_asm); (case k3 => k_asm); (case k4 => k_asm); (case k5 => k_asm); (case k6 => first | exact rfl | assumption); (case k7 => ktr_room); (case k8 => ktr_units); k_whole); (intro _ _ _ _ _); (try k_sweep))
  k_with "call builtin:iter" => ((k_here; (with_reducible show wpAny _ _ (call (Value.builtin "iter") [Value.ref _]) _ _ _); k_dflt (refine' iter_list_call ?k1 ?k2 ?k3 ?_; (case k1 => k_asm); (case k2 => k_asm); (case k3 => k_mem); k_whole); intro _ _ _ _ l1; (try k_lt l1); (try k_sweep)); (try (revert l1; intro _)))
  trivial
theorem joinF_len (x y : Str) : (joinF x y).length ≤ x.length + (y.length + 1) := by
  have h2 : (Str.ofString "/").length = 1 := by decide +kernel
  unfold joinF
  repeat' split
  all_goals (try simp only [Str.length_append, h2])
  all_goals omega
theorem joinF_pos (x y : Str) (hx : 1 ≤ x.length) : 1 ≤ (joinF x y).length := by
  unfold joinF
  have h2 : (Str.ofString "/").length = 1 := by decide +kernel
  split
  · rename_i h
    unfold Txt.startswith at h
    have h3 := of_decide_eq_true (Bool.and_eq_true_iff.mp h).1
    omega
  · split
    all_goals simp only [Str.length_append, h2]
    all_goals omega
def wt1 (l : List Str) : Nat := (l.map (fun y => y.length + 1)).sum
theorem foldJ_len : ∀ (l : List Str) (i : Str), (l.foldl joinF i).length ≤ i.length + wt1 l
  | [], i => by simp [wt1]
  | y :: l, i => by
    rw [List.foldl_cons]
    have h1 := foldJ_len l (joinF i y)
    have h2 := joinF_len i y
    have : wt1 (y :: l) = y.length + 1 + wt1 l := by simp [wt1]
    omega
theorem foldJ_pos : ∀ (l : List Str) (i : Str), 1 ≤ i.length → 1 ≤ (l.foldl joinF i).length
  | [], i, h => h
  | y :: l, i, h => by
    rw [List.foldl_cons]
    exact foldJ_pos l _ (joinF_pos i y h)
theorem reduce_C (w : World) (mean : ExcName → Option Value) (mg mb : Str → Option Value) (news : List (Addr × Obj)) (l : Addr) (vs : List Value) (n : Nat) (xs : List Str) (i0 : Str) (t0 : Tok) (hv : StrsAre vs xs) (h1 : 1 ≤ i0.length) (hb : i0.length + wt1 xs ≤ 100000) :
    TClaim w mean mg mb ((l, listOf vs.toArray n) :: news) 161 5 [.ref 138, .ref l, .str i0 t0] (rText ((l, listOf vs.toArray n) :: news) (xs.foldl joinF i0)) := by
  dsimp only [TClaim]
  intros
  rename_i hret
  refine wpAny_call ?_
  k_dflt (walk_at "MY enter")
  k_steps
  rename_i I hq1 ll hq2 hq3 F0 N0
  obtain ⟨lla, llb⟩ := ll
  with_unfolding_all refine' iter_itTurns (lo := listOf vs.toArray n) (vs := vs) (n := n) ?h F0 N0 ?k rfl rfl ?hI ?_
  (case h => with_unfolding_all rfl)
  (case k => exact .head _)
  (case hI => (intro p hp; rcases List.mem_cons.mp hp with rfl | hp; exact Nat.ne_of_lt lla; exact allLt_ne llb p hp))
  refine items_strs2 (Str.ofString "element") (Str.ofString "value") (by decide +kernel) (fun pre v nw => (∃ t, v = .str (pre.foldl joinF i0) t) ∧ nw = (l, listOf vs.toArray n) :: news) hv ?turn ?done rfl ⟨⟨_, rfl⟩, rfl⟩
  case turn =>
    rintro o pre x t rs u v nw h tk e ⟨⟨tv, rfl⟩, rfl⟩ F N
    have hb2 : wt1 xs = wt1 pre + (x.length + 1 + wt1 rs) := by rw [e]; simp [wt1]
    have hb3 := foldJ_len pre i0
    have hj1 : (pre.foldl joinF i0).length ≤ 100000 := by omega
    have hj2 := foldJ_pos pre i0 h1
    have hj3 : x.length ≤ 100000 := by omega
    have hoff : ∀ p ∈ (l, listOf vs.toArray n) :: news, ∀ q ∈ [(I, o)], p.1 ≠ q.1 := by
      intro p hp q hq
      rw [List.mem_singleton.mp hq]
      rcases List.mem_cons.mp hp with rfl | hp
      · exact Nat.ne_of_lt lla
      · exact allLt_ne llb p hp
    have hfl : (pre ++ [x]).foldl joinF i0 = joinF (pre.foldl joinF i0) x := by rw [List.foldl_append]; rfl
    clear F0 N0 hb2 hb3
    refine (?_ : wpAny _ _ _ _ _ _)
    k_fold
    k_steps
    exact tend (by assumption) (by assumption) hoff ⟨.head _, _, _, mform2 (by decide +kernel), ⟨_, (congrArg (fun z => Value.str z _) hfl).symm⟩, rfl⟩
  case done =>
    rintro u v nw h tk ⟨⟨tv, rfl⟩, rfl⟩ F N
    clear F0 N0
    refine (?_ : wpAny _ _ _ _ _ _)
    k_steps
    exact hret _ _ _ (by k_asm) (by assumption)
end M5_

section S1_
open PySem.W.X PySem.Calls PySem.Builtin PySem.Builtin.Re
abbrev CODE : Array Nat := #[14, 17, 4, 1, 1, 21, 9, 0, 604043296, 1, 0, 0, 0, 0, 0, 8, 4, 0, 13, 14, 21, 9, 0, 604043296, 1, 0, 0, 0, 0, 0, 8, 4, 0, 1]
abbrev codeVals : Array Value := #[Value.int 14 0, Value.int 17 0, Value.int 4 0, Value.int 1 0, Value.int 1 0, Value.int 21 0, Value.int 9 0,
    Value.int 0 0, Value.int 604043296 0, Value.int 1 0, Value.int 0 0, Value.int 0 0, Value.int 0 0, Value.int 0 0,
    Value.int 0 0, Value.int 8 0, Value.int 4 0, Value.int 0 0, Value.int 13 0, Value.int 14 0, Value.int 21 0,
    Value.int 9 0, Value.int 0 0, Value.int 604043296 0, Value.int 1 0, Value.int 0 0, Value.int 0 0, Value.int 0 0,
    Value.int 0 0, Value.int 0 0, Value.int 8 0, Value.int 4 0, Value.int 0 0, Value.int 1 0]
abbrev o862 : Obj := ⟨.type "builtin_function_or_method", none, .fields #[.builtin "re.Pattern.search", .ref 166], #[]⟩
abbrev o166 : Obj := ⟨.type "re.Pattern", none, .fields #[Value.str (Str.ofString "[^\\w@%+=:,./-]") 505, Value.int 256 542, Value.int 0 0, Value.none, Value.none, Value.ref 165, Value.int 0 0], #[]⟩
abbrev o165 : Obj := ⟨.type "tuple", none, .seq codeVals 0, #[]⟩
section
variable {prog : Program} {w : World} {A : Around} {s : Shared}
theorem at862 (X : (hd.heap_39 w.params).In s.heap) : s.heap.get? 862 = some o862 := X 862 o862 (by kernel_rfl)
theorem at166 (X : (hd.heap_39 w.params).In s.heap) : s.heap.get? 166 = some o166 := X 166 o166 (by kernel_rfl)
theorem at165 (X : (hd.heap_39 w.params).In s.heap) : s.heap.get? 165 = some o165 := X 165 o165 (by kernel_rfl)
theorem entry_search : entryFor table "re.Pattern.search" = some Builtin.«re.Pattern.search» := entryFor_of_tree (by kernel_rfl)
theorem search_call {R : Result → Shared → Prop} {x : Str} {t : Tok} (X : (hd.heap_39 w.params).In s.heap)
    (h : codeAny (model prog w) A (.builtin "re.Pattern.search" ⟨[.ref 166, .str x t], []⟩) R s) : codeAny (model prog w) A (.call (.ref 862) ⟨[.str x t], []⟩) R s := by
  have ho := at862 X
  have h166 := at166 X
  have h165 := at165 X
  obtain ⟨hh, g, dr, tk, os⟩ := s
  refine codeAny_of_tree ?_
  show wpAny _ _ (callAny (.ref 862) _) _ _ _
  dsimp only at ho
  refine nd_load ho ?_
  show wpAny _ _ (checkBoundCall "re.Pattern.search" ⟨[.ref 166, .str x t], []⟩ >>= fun _ => again (.builtin "re.Pattern.search" ⟨[.ref 166, .str x t], []⟩)) _ _ _
  refine x_skim 400 ?_
  with_unfolding_all refine x_load (a := 166) (o := o166) (by assumption) ?_
  refine x_skim 400 ?_
  repeat (with_unfolding_all refine x_load (a := 166) (o := o166) (by assumption) ?_; refine x_skim 400 ?_)
  refine wpAny_of_eq (a := PySem.Fin.again (.builtin "re.Pattern.search" ⟨[.ref 166, .str x t], []⟩)) (by kernel_rfl!) ⟨?_, h⟩
  exact Code.quiet_builtin _ (by decide +kernel)
theorem search_tree {Q : Fin → Shared → Prop} {E : Value → Shared → Prop} {x : Str} {t : Tok} (X : (hd.heap_39 w.params).In s.heap)
    (h : wpAny (model prog w) A (reAnswer ⟨.ref 166, .str x t, CODE, x.cps, 0, 0, 0, min 9223372036854775807 x.cps.size⟩ (Sre.forSearch CODE x.cps 0 0 (min 9223372036854775807 x.cps.size) false)) Q E s) :
    wpAny (model prog w) A (Builtin.«re.Pattern.search» ⟨[.ref 166, .str x t], []⟩) Q E s := by
  unfold Builtin.«re.Pattern.search»
  refine wpAny_bind ?_
  have h166 := at166 X
  have h165 := at165 X
  with_unfolding_all refine x_load (a := 166) (o := o166) (by assumption) ?_
  refine x_skim 400 ?_
  with_unfolding_all refine x_load (a := 165) (o := o165) (by assumption) ?_
  refine x_skim 400 ?_
  refine wpAny_of_eq (a := (⟨.ref 166, .str x t, CODE, x.cps, 0, 0, 0, min 9223372036854775807 x.cps.size⟩ : ReTarget)) (by kernel_rfl!) h
end
end S1_

section S2_
open PySem.W.X PySem.Calls PySem.Builtin PySem.Builtin.Re
open PySem.Sre
def badC (c : Nat) : Bool := [32, 34, 39].contains c
theorem set_safe {c : Nat} (h : safeC c = true) (yes0 : Nat) (hy : yes0 = 5 ∨ yes0 = 20) (seen : Sre.Seen) : ∃ s', inSet CODE c 34 yes0 true seen = .ok (false, s') := by
  have h' : c ∈ [46, 47, 97, 98, 99, 105, 115, 116, 120, 121] := List.contains_iff_mem.mp h
  rcases hy with rfl | rfl <;>
  · simp only [List.mem_cons, List.not_mem_nil, or_false] at h'
    rcases h' with rfl | rfl | rfl | rfl | rfl | rfl | rfl | rfl | rfl | rfl <;> exact ⟨_, rfl⟩
theorem set_bad {c : Nat} (h : badC c = true) (yes0 : Nat) (hy : yes0 = 5 ∨ yes0 = 20) (seen : Sre.Seen) : ∃ s', inSet CODE c 34 yes0 true seen = .ok (true, s') := by
  have h' : c ∈ [32, 34, 39] := List.contains_iff_mem.mp h
  rcases hy with rfl | rfl <;>
  · simp only [List.mem_cons, List.not_mem_nil, or_false] at h'
    rcases h' with rfl | rfl | rfl <;> exact ⟨_, rfl⟩
theorem admitted_none (m : M) (hc : m.code = CODE) : ∀ (fuel s : Nat) (seen : Sre.Seen), (∀ i, s ≤ i → i < m.lim → safeC (m.text.getD i 0) = true) → ∃ s', M.admitted m fuel s seen = .ok (none, s')
  | 0, s, seen, _ => ⟨seen, rfl⟩
  | fuel + 1, s, seen, h => by
    unfold M.admitted
    by_cases hs : s ≥ m.lim
    · rw [if_pos hs]; exact ⟨_, rfl⟩
    · rw [if_neg hs, hc]
      obtain ⟨s', e⟩ := set_safe (h s (Nat.le_refl _) (by omega)) 5 (.inl rfl) seen
      have e' : inSet CODE (m.text.getD s 0) CODE.size 5 true seen = .ok (false, s') := e
      rw [e']
      exact admitted_none m hc fuel (s + 1) s' fun i hi => h i (by omega)
theorem admitted_some (m : M) (hc : m.code = CODE) : ∀ (fuel s k : Nat) (seen : Sre.Seen), s ≤ k → k < s + fuel → k < m.lim → badC (m.text.getD k 0) = true → (∀ i, s ≤ i → i < k → safeC (m.text.getD i 0) = true) → ∃ s', M.admitted m fuel s seen = .ok (some k, s')
  | 0, s, k, seen, h1, h2, _, _, _ => absurd h2 (by omega)
  | fuel + 1, s, k, seen, h1, h2, h3, h4, h5 => by
    unfold M.admitted
    rw [if_neg (by omega), hc]
    by_cases e : s = k
    · subst e
      obtain ⟨s', e⟩ := set_bad h4 5 (.inl rfl) seen
      have e' : inSet CODE (m.text.getD s 0) CODE.size 5 true seen = .ok (true, s') := e
      rw [e']
      exact ⟨_, rfl⟩
    · obtain ⟨s', e1⟩ := set_safe (h5 s (Nat.le_refl _) (by omega)) 5 (.inl rfl) seen
      have e' : inSet CODE (m.text.getD s 0) CODE.size 5 true seen = .ok (false, s') := e1
      rw [e']
      exact admitted_some m hc fuel (s + 1) k s' (by omega) (by omega) h3 h4 fun i hi => h5 i (by omega)
theorem hasFirst (m : M) (hc : m.code = CODE) : m.hasFirstSet = true := by unfold M.hasFirstSet; rw [hc]; rfl
theorem run_none (m : M) (hc : m.code = CODE) (ho : m.outcome = none) (hf : m.frames = []) (h : ∀ i, i < m.lim → safeC (m.text.getD i 0) = true) : ((m.attemptFrom 0 true).runFor 4).outcome = some .failed := by
  obtain ⟨s', e⟩ := admitted_none m hc (m.lim + 1 - 0) 0 m.seen fun i _ => h i
  have e1 : m.attemptFrom 0 true = { m with seen := s' }.say false := by
    unfold M.attemptFrom
    rw [hasFirst m hc, e]
    rfl
  rw [e1]
  obtain ⟨code, text, lim, start, lastStart, wholeText, mustAdvance, pc, pos, handed, outermost, marks, lastmark, lastindex, loops, inner, frames, weight, answer, seen, outcome⟩ := m
  dsimp only at ho hf
  subst ho hf
  rfl
theorem run_some (m : M) (hc : m.code = CODE) (ho : m.outcome = none) (hf : m.frames = []) (ha : m.answer = none) (hp : m.pc = 18) (hw : m.weight = 0) (hwt : m.wholeText = false) (k : Nat) (hk : k < m.lim) (h1 : badC (m.text.getD k 0) = true) (h : ∀ i, i < k → safeC (m.text.getD i 0) = true) :
    ((m.attemptFrom 0 true).runFor 4).outcome = some .matched ∧ ((m.attemptFrom 0 true).runFor 4).marks = m.marks := by
  obtain ⟨s', e⟩ := admitted_some m hc (m.lim + 1 - 0) 0 k m.seen (Nat.zero_le _) (by omega) hk h1 fun i _ => h i
  have e1 : m.attemptFrom 0 true = { m with mustAdvance := false, seen := s' }.attemptAt k true := by
    unfold M.attemptFrom
    rw [hasFirst m hc, e]
    rfl
  rw [e1]
  obtain ⟨code, text, lim, start, lastStart, wholeText, mustAdvance, pc, pos, handed, outermost, marks, lastmark, lastindex, loops, inner, frames, weight, answer, seen, outcome⟩ := m
  dsimp only at ho hf ha hp hw hwt hc hk h1
  subst ho hf ha hp hw hwt hc
  obtain ⟨s2, e2⟩ := set_bad h1 20 (.inr rfl) (s'.add 13)
  have e3 : accepts CODE 18 (text.getD k 0) (s'.add 13) = .ok (true, s2) := e2
  have hk' : ¬ (k ≥ lim) := by omega
  have st1 : M.step (M.attemptAt { code := CODE, text, lim, start, lastStart, wholeText := false, mustAdvance := false, pc := 18, pos, handed, outermost, marks, lastmark, lastindex, loops, inner, frames := [], weight := 0, answer := none, seen := s', outcome := none } k true)
      = (if k ≥ lim then M.say { code := CODE, text, lim, start := k, lastStart, wholeText := false, mustAdvance := false, pc := 18, pos := k, handed := k, outermost := true, marks, lastmark := -1, lastindex := -1, loops, inner, frames := [{ wait := .nextStart, pc := 18, pos := k, outermost := true }], weight := 1, answer := none, seen := s'.add 13, outcome := none } false
         else match accepts CODE 18 (text.getD k 0) (s'.add 13) with
          | .error why => M.stick { code := CODE, text, lim, start := k, lastStart, wholeText := false, mustAdvance := false, pc := 18, pos := k, handed := k, outermost := true, marks, lastmark := -1, lastindex := -1, loops, inner, frames := [{ wait := .nextStart, pc := 18, pos := k, outermost := true }], weight := 1, answer := none, seen := s'.add 13, outcome := none } why
          | .ok (false, seen) => M.say { code := CODE, text, lim, start := k, lastStart, wholeText := false, mustAdvance := false, pc := 18, pos := k, handed := k, outermost := true, marks, lastmark := -1, lastindex := -1, loops, inner, frames := [{ wait := .nextStart, pc := 18, pos := k, outermost := true }], weight := 1, answer := none, seen := seen, outcome := none } false
          | .ok (true, seen) => { code := CODE, text, lim, start := k, lastStart, wholeText := false, mustAdvance := false, pc := 33, pos := k + 1, handed := k, outermost := true, marks, lastmark := -1, lastindex := -1, loops, inner, frames := [{ wait := .nextStart, pc := 18, pos := k, outermost := true }], weight := 1, answer := none, seen := seen, outcome := none }) := rfl
  rw [if_neg hk', e3] at st1
  have r1 : ∀ (m : M), m.outcome = none → m.runFor 4 = m.step.runFor 3 := fun m h => by
    show (if m.outcome.isSome then m else M.runFor 3 m.step) = _
    rw [h]; rfl
  rw [r1 _ rfl, st1]
  exact ⟨rfl, rfl⟩
end S2_

section S3_
open PySem.W.X PySem.Calls PySem.Builtin PySem.Builtin.Re
open PySem.Sre
section
variable {prog : Program} {w : World} {A : Around} {E : Value → Shared → Prop} {s : Shared}
theorem drive_end {m : Sre.M} {Q : Sre.M → Shared → Prop} (ho : (m.runFor 4).outcome.isSome = true) (h : Q (m.runFor 4) s) : ∀ n, n ≠ 0 → wpAny (model prog w) A (reDrive n m) Q E s
  | 0, h0 => absurd rfl h0
  | n + 1, _ => by
    unfold reDrive
    show wpAny _ _ (if (m.runFor reTurnSteps).outcome.isSome then pure (m.runFor reTurnSteps) else _) _ _ _
    have e : m.runFor reTurnSteps = m.runFor 4 := rfl
    rw [e, if_pos ho]
    exact wpAny_pure h
theorem rules_loop {m : Sre.M} {Q : PUnit → Shared → Prop} (h : Q ⟨⟩ s) : ∀ l : List Nat, wpAny (model prog w) A (forIn l PUnit.unit (fun i _ => if m.seen.has i then (do rule (Sre.names.getD i ""); pure (ForInStep.yield PUnit.unit)) else (do pure PUnit.unit; pure (ForInStep.yield PUnit.unit)))) Q E s
  | [] => by rw [List.forIn_nil]; exact wpAny_pure h
  | i :: l => by
    rw [List.forIn_cons]
    refine wpAny_bind ?_
    split
    · refine wpAny_bind (wpAny_rule ?_)
      exact wpAny_pure (rules_loop h l)
    · exact wpAny_pure (rules_loop h l)
theorem rerun_failed {m : Sre.M} {Q : Option Sre.M → Shared → Prop} (ho : (m.runFor 4).outcome = some .failed) (h : Q none s) : wpAny (model prog w) A (reRunToEnd m) Q E s := by
  unfold reRunToEnd
  refine wpAny_bind (drive_end (by rw [ho]; rfl) ?_ _ (by decide +kernel))
  refine wpAny_bind (wpAny_mono (rules_loop (m := m.runFor 4) (Q := fun _ s' => s' = s) rfl (List.range Sre.names.size)) (fun _ s' e => ?_) fun _ _ e => e)
  subst e
  rw [ho]
  exact wpAny_pure h
theorem rerun_matched {m : Sre.M} {Q : Option Sre.M → Shared → Prop} (ho : (m.runFor 4).outcome = some .matched) (h : Q (some (m.runFor 4)) s) : wpAny (model prog w) A (reRunToEnd m) Q E s := by
  unfold reRunToEnd
  refine wpAny_bind (drive_end (by rw [ho]; rfl) ?_ _ (by decide +kernel))
  refine wpAny_bind (wpAny_mono (rules_loop (m := m.runFor 4) (Q := fun _ s' => s' = s) rfl (List.range Sre.names.size)) (fun _ s' e => ?_) fun _ _ e => e)
  subst e
  rw [ho]
  exact wpAny_pure h
theorem fs_failed (text : Array Nat) (lim : Nat) (hl : 1 ≤ lim) (h : ∀ i, i < lim → safeC (text.getD i 0) = true) : ((Sre.forSearch CODE text 0 0 lim false).runFor 4).outcome = some .failed := by
  unfold Sre.forSearch
  have hc : ¬ ((decide (0 > lim) || decide (lim - 0 < (header CODE).1)) = true) := by
    have e : (header CODE).1 = 1 := rfl
    rw [e]
    simp only [Bool.or_eq_true, decide_eq_true_eq]
    omega
  simp only []
  rw [if_neg hc]
  exact run_none _ rfl rfl rfl h
theorem fs_matched (text : Array Nat) (lim k : Nat) (hk : k < lim) (h1 : badC (text.getD k 0) = true) (h : ∀ i, i < k → safeC (text.getD i 0) = true) : ((Sre.forSearch CODE text 0 0 lim false).runFor 4).outcome = some .matched := by
  unfold Sre.forSearch
  have hc : ¬ ((decide (0 > lim) || decide (lim - 0 < (header CODE).1)) = true) := by
    have e : (header CODE).1 = 1 := rfl
    rw [e]
    simp only [Bool.or_eq_true, decide_eq_true_eq]
    omega
  simp only []
  rw [if_neg hc]
  exact (run_some _ rfl rfl rfl rfl rfl rfl rfl k hk h1 h).1
theorem find_safe {Q : Value → Shared → Prop} {x : Str} {t : Tok} (X : (hd.heap_39 w.params).In s.heap) (hl : 1 ≤ x.cps.size) (hl2 : x.cps.size ≤ 100000) (hx : ∀ i, i < x.cps.size → safeC (x.cps.getD i 0) = true) (h : Q .none s) :
    wpAny (model prog w) A (call (.ref 862) [.str x t]) Q E s := by
  refine wpAny_call (search_call X (codeAny_builtin entry_search (search_tree X ?_)))
  unfold reAnswer
  have e : min 9223372036854775807 x.cps.size = x.cps.size := by omega
  rw [e]
  refine wpAny_bind (rerun_failed (fs_failed _ _ hl hx) ?_)
  exact wpAny_pure h
theorem find_bad {Q : Value → Shared → Prop} {x : Str} {t : Tok} (X : (hd.heap_39 w.params).In s.heap) (hl2 : x.cps.size ≤ 100000) (k : Nat) (hk : k < x.cps.size) (h1 : badC (x.cps.getD k 0) = true) (hx : ∀ i, i < k → safeC (x.cps.getD i 0) = true)
    (h : ∀ a o₁ o₂, Q (.ref a) { s with heap := (s.heap.push o₁).push o₂ }) :
    wpAny (model prog w) A (call (.ref 862) [.str x t]) Q E s := by
  refine wpAny_call (search_call X (codeAny_builtin entry_search (search_tree X ?_)))
  unfold reAnswer
  have e : min 9223372036854775807 x.cps.size = x.cps.size := by omega
  rw [e]
  refine wpAny_bind (rerun_matched (fs_matched _ _ k hk h1 hx) ?_)
  refine wpAny_bind ?_
  unfold reNewMatch
  with_unfolding_all refine wpAny_bind (m := alloc _) (wpAny_alloc ?_)
  with_unfolding_all refine wpAny_bind (m := alloc _) (wpAny_alloc ?_)
  exact wpAny_pure (wpAny_pure (h _ _ _))
end
end S3_

section DQ_
theorem lines_10 : True := by
  k_with_none
  k_with "call builtin:issubclass" => (k_here; (with_reducible show wpAny _ _ (call (Value.builtin "issubclass") [Value.type "str", Value.ref _]) _ _ _); k_dflt (refine' issub_K ?k1 ?k2 ?_; (case k1 => k_asm); (case k2 => k_mem); k_whole); intro _)
  k_with "call ref" => (k_here; (with_reducible show wpAny _ _ (call (Value.ref 117) [Value.str _ _]) _ _ _); k_dflt (refine' TClaim.use (fspath_C _ _ _ _ _ _ _) ?k1 ?k2 ?k3 ?k4 ?k5 ?k6 ?k7 ?k8 ?_; (case k1 => k_asm); (case k2 => k_asm); (case k3 => k_asm); (case k4 => k_asm); (case k5 => k_asm); (case k6 => first | exact rfl | assumption); (case k7 => ktr_room); (case k8 => ktr_units); k_whole); (intro _ _ _ _); (try k_sweep))
  k_with "call ref" => ((k_here; (with_reducible show wpAny _ _ (call (Value.ref 145) [Value.str _ _]) _ _ _); k_dflt (refine' TClaim.use (splitroot_C _ _ _ _ _ _ _ (by kt_len)) ?k1 ?k2 ?k3 ?k4 ?k5 ?k6 ?k7 ?k8 ?_; (case k1 => k_asm); (case k2 => k_asm); (case k3 => k_asm); (case k4 => k_asm); (case k5 => k_asm); (case k6 => first | exact rfl | assumption); (case k7 => ktr_room); (case k8 => ktr_units); k_whole); (intro _ _ _ _ _ _ _ _ e1 e2 _ _ l1 _); (try k_lt l1); (subst e1 e2); (try k_sweep)); (try (revert l1; intro _)))
  trivial
abbrev dqObj : Obj := { cls := Value.type "collections.deque", data := Data.fields #[Value.none, Value.int 0 0] }
section
variable {prog : Program} {w : World} {A : Around} {E : Value → Shared → Prop} {s : Shared} {Q : Value → Shared → Prop} {h₀ : Heap} {L : Addr} {m : Str → Option Value} {news : List (Addr × Obj)}
def DqEnd (s : Shared) (Q : Value → Shared → Prop) : Prop := ∀ (a : Addr) h', (∀ b o, s.heap.get? b = some o → h'.get? b = some o) → h'.get? a = some dqObj → s.heap.get? a = none → Q (.ref a) { s with heap := h' }
theorem dq_end {a : Addr} {h₂ : Heap} (h : DqEnd s Q) (D : PySem.W.X.Mem s.heap h₂ [] [(a, dqObj)]) : Q (.ref a) { s with heap := h₂ } :=
  h a h₂ (fun b o e => D.keep b o e (by simp [PySem.W.X.away])) (D.nw _ (.head _)).1 (D.nw _ (.head _)).2
open PySem.W.X in
local macro_rules | `(tactic| x_close) => `(tactic| exact dq_end (by assumption) (by assumption))
open PySem.W.X in
theorem deque_run (h : DqEnd s Q) : wpAny (model prog w) A (call (.type "collections.deque") []) Q E s := by
  x_run
def AllNe (d : Nat) : List (Addr × Obj) → Prop
  | [] => True
  | p :: r => @Ne Nat p.1 d ∧ AllNe d r
theorem allNe_of {d : Addr} : ∀ {l : List (Addr × Obj)}, (∀ p ∈ l, p.1 ≠ d) → AllNe d l
  | [], _ => trivial
  | p :: _, h => ⟨h p (.head _), allNe_of fun q hq => h q (.tail _ hq)⟩
theorem deque_K (F : Fr h₀ L s.heap m) (N : News h₀ L s.heap news) (h : ∀ (a : Addr) h', Fr h₀ L h' m → News h₀ L h' ((a, dqObj) :: news) → AllNe a news → Q (.ref a) { s with heap := h' }) :
    wpAny (model prog w) A (call (.type "collections.deque") []) Q E s := by
  refine deque_run fun a h' k ha hn => h a h' (F.keeps k) ?_ (allNe_of fun p hp e => ?_)
  · intro p hp
    rcases List.mem_cons.mp hp with rfl | hp
    · refine ⟨ha, fun e => ?_, ?_⟩
      · have := F.ns.lt
        obtain ⟨o, _, _, ho, _⟩ := F.ns
        rw [← e, hn] at ho
        cases ho
      · cases q : h₀.get? a with
        | none => rfl
        | some o => have := F.keep _ _ q; rw [hn] at this; cases this
    · exact ⟨k _ _ (N p hp).1, (N p hp).2⟩
  · have := (N p hp).1
    rw [e, hn] at this
    cases this
end
end DQ_

section DQ3_
theorem lines_11 : True := by
  k_with_none
  k_with "call builtin:issubclass" => (k_here; (with_reducible show wpAny _ _ (call (Value.builtin "issubclass") [Value.type "str", Value.ref _]) _ _ _); k_dflt (refine' issub_K ?k1 ?k2 ?_; (case k1 => k_asm); (case k2 => k_mem); k_whole); intro _)
  k_with "call ref" => (k_here; (with_reducible show wpAny _ _ (call (Value.ref 117) [Value.str _ _]) _ _ _); k_dflt (refine' TClaim.use (fspath_C _ _ _ _ _ _ _) ?k1 ?k2 ?k3 ?k4 ?k5 ?k6 ?k7 ?k8 ?_; (case k1 => k_asm); (case k2 => k_asm); (case k3 => k_asm); (case k4 => k_asm); (case k5 => k_asm); (case k6 => first | exact rfl | assumption); (case k7 => ktr_room); (case k8 => ktr_units); k_whole); (intro _ _ _ _); (try k_sweep))
  k_with "call ref" => ((k_here; (with_reducible show wpAny _ _ (call (Value.ref 145) [Value.str _ _]) _ _ _); k_dflt (refine' TClaim.use (splitroot_C _ _ _ _ _ _ _ (by kt_len)) ?k1 ?k2 ?k3 ?k4 ?k5 ?k6 ?k7 ?k8 ?_; (case k1 => k_asm); (case k2 => k_asm); (case k3 => k_asm); (case k4 => k_asm); (case k5 => k_asm); (case k6 => first | exact rfl | assumption); (case k7 => ktr_room); (case k8 => ktr_units); k_whole); (intro _ _ _ _ _ _ _ _ e1 e2 _ _ l1 _); (try k_lt l1); (subst e1 e2); (try k_sweep)); (try (revert l1; intro _)))
  trivial
section
open PySem.Calls PySem.Spec
variable {prog : Program} {w : World} {A : Around} {E : Value → Shared → Prop} {s : Shared} {Q : Value → Shared → Prop} {h₀ : Heap} {L : Addr} {m : Str → Option Value} {news : List (Addr × Obj)}
def LqEnd (s : Shared) (Q : Value → Shared → Prop) : Prop := ∀ (k t : Nat), Q (.int 0 k) { s with toks := t }
theorem lq_end {k t : Nat} (h : LqEnd s Q) : Q (.int 0 k) { s with toks := t } := h k t
section
open PySem.W.X
local macro_rules | `(tactic| x_close) => `(tactic| exact lq_end (by assumption))
theorem dq_len {D : Addr} (hD : s.heap.get? D = some ⟨.type "collections.deque", none, .fields #[Value.none, Value.int 0 0], #[]⟩) (h : LqEnd s Q) : wpAny (model prog w) A (runValue (.builtin "len" ⟨[.ref D], []⟩)) Q E s := by
  x_run
end
theorem dq_noBool : typeLookup (.type "collections.deque") "__bool__" = pure none := by rw [typeLookup_type, builtinLookup_eq_fast]; kernel_rfl
theorem dq_hasLen : typeLookup (.type "collections.deque") "__len__" = pure (some (.builtin "collections.deque.__len__")) := by rw [typeLookup_type, builtinLookup_eq_fast]; kernel_rfl
theorem dq_truthy {D : Addr} {Q : Bool → Shared → Prop} (N : News h₀ L s.heap news) (hm : (D, dqObj) ∈ news) (h : ∀ t, Q false { s with toks := t }) : wpAny (model prog w) A (truthy (.ref D)) Q E s := by
  have hD := (N _ hm).1
  have hT : s.TypeIs (.ref D) "collections.deque" := ⟨_, hD, rfl⟩
  have key : wpAny (model prog w) A (runValue (.builtin "len" ⟨[.ref D], []⟩)) (fun r s' => (∃ k, r = .int 0 k) ∧ Q false s') E s := dq_len hD fun k t => ⟨⟨k, rfl⟩, h t⟩
  unfold truthy
  first
    | refine wpAny_bind (wpAny_callSpecial?_none (name := Str.ofString "__bool__") hT dq_noBool ?_)
    | refine wpAny_bind (wpAny_pure (wpAny_bind (wpAny_callSpecial?_none (name := Str.ofString "__bool__") hT dq_noBool ?_)))
  first
    | refine wpAny_bind (wpAny_specialOf (name := Str.ofString "__len__") hT dq_hasLen ?_)
    | refine wpAny_bind (wpAny_pure (wpAny_bind (wpAny_specialOf (name := Str.ofString "__len__") hT dq_hasLen ?_)))
  first
    | exact wpAny_bind (wpAny_mono key (fun r s' h' => by obtain ⟨⟨k, rfl⟩, hq⟩ := h'; exact wpAny_pure hq) fun _ _ e => e)
    | exact wpAny_bind (wpAny_pure (wpAny_bind (wpAny_mono key (fun r s' h' => by obtain ⟨⟨k, rfl⟩, hq⟩ := h'; exact wpAny_pure hq) fun _ _ e => e)))
end
end DQ3_

section R1_
theorem lines_12 : True := by
  k_with_none
  k_with "call builtin:issubclass" => (k_here; (with_reducible show wpAny _ _ (call (Value.builtin "issubclass") [Value.type "str", Value.ref _]) _ _ _); k_dflt (refine' issub_K ?k1 ?k2 ?_; (case k1 => k_asm); (case k2 => k_mem); k_whole); intro _)
  k_with "call ref" => (k_here; (with_reducible show wpAny _ _ (call (Value.ref 117) [Value.str _ _]) _ _ _); k_dflt (refine' TClaim.use (fspath_C _ _ _ _ _ _ _) ?k1 ?k2 ?k3 ?k4 ?k5 ?k6 ?k7 ?k8 ?_; (case k1 => k_asm); (case k2 => k_asm); (case k3 => k_asm); (case k4 => k_asm); (case k5 => k_asm); (case k6 => first | exact rfl | assumption); (case k7 => ktr_room); (case k8 => ktr_units); k_whole); (intro _ _ _ _); (try k_sweep))
  k_with "call ref" => ((k_here; (with_reducible show wpAny _ _ (call (Value.ref 145) [Value.str _ _]) _ _ _); k_dflt (refine' TClaim.use (splitroot_C _ _ _ _ _ _ _ (by kt_len)) ?k1 ?k2 ?k3 ?k4 ?k5 ?k6 ?k7 ?k8 ?_; (case k1 => k_asm); (case k2 => k_asm); (case k3 => k_asm); (case k4 => k_asm); (case k5 => k_asm); (case k6 => first | exact rfl | assumption); (case k7 => ktr_room); (case k8 => ktr_units); k_whole); (intro _ _ _ _ _ _ _ _ e1 e2 _ _ l1 _); (try k_lt l1); (subst e1 e2); (try k_sweep)); (try (revert l1; intro _)))
  k_with "call builtin:str.split" => ((k_here; (with_reducible show wpAny _ _ (call (Value.builtin "str.split") [Value.str _ _, Value.str (PySem.Str.ofString "/") _]) _ _ _); (refine KSpl.split1 (by k_asm) (by k_asm) (by decide) ?_ (by rw [PySem.sizeLine_eq]; omega)); (intro _ _ _ _ _ _ _ _ l1); (try k_lt l1)); (try (revert l1; intro _)))
  k_with "call builtin:list.append" => (k_here; (with_reducible show wpAny _ _ (call (Value.builtin _) [Value.ref _, _]) _ _ _); k_dflt (refine' append_L ?k1 ?k2 ?k3 ?z ?_; (case k1 => k_asm); (case k2 => k_asm); (case k3 => k_upd); (case z => with_reducible assumption); k_whole); intro _ _ _; (try k_sweep))
  k_with "call builtin:list.pop" => (k_here; k_dflt (refine' pop_snoc ?k1 ?k2 ?k3 ?z ?_; (case k1 => k_asm); (case k2 => k_asm); (case k3 => k_upd); (case z => with_reducible assumption); k_whole); intro _ _ _; (try k_sweep))
  k_with "subscriptTail Name UnaryOp ref int" => (k_here; (with_reducible show wpAny _ _ (subscriptTail _ _ (Value.ref _) (Value.int _ _)) _ _ _); (with_unfolding_all refine' last_snoc ?k1 ?k2 ?_ ?k3 ?k4; (case k1 => k_asm); (case k2 => k_mem); (case k3 => with_unfolding_all rfl); (case k4 => (intro _; with_unfolding_all rfl)); k_whole))
  k_with "truthy ref" => (k_here; (with_reducible show wpAny _ _ (truthy (Value.ref _)) _ _ _); k_dflt (refine' truthy_strs ?k1 ?k2 ?k3 ?k4 ?g0 ?g1; (case k1 => k_asm); (case k2 => k_mem); (case k3 => with_reducible assumption); (case k4 => with_reducible assumption)); (case' g0 => (intro e1 _; subst e1)); (case' g1 => (intro _ _ _ _ e1 _ _; subst e1)))
  k_with "truthy ref" => (k_here; (with_reducible show wpAny _ _ (truthy (Value.ref _)) _ _ _); k_dflt (refine' truthy_snoc ?k1 ?k2 ?k4 ?_; (case k1 => k_asm); (case k2 => k_mem); (case k4 => with_reducible assumption); k_whole))
  k_with "TPost" => (dsimp only [TPost])
  trivial
theorem lines_13 : True := by
  k_with "truthy str" => (k_here; (with_reducible show wpAny _ _ (PySem.truthy (Value.str _ _)) _ _ _); (refine' KXt.truthy_pos ?kxta ?kxtb ?kxtc ?_; (case kxta => with_reducible assumption); (case kxtb => with_reducible assumption); (case kxtc => exact Nat.le_of_ble_eq_true rfl)); intro _)
  k_with "call builtin:str.join" => (k_here; (with_reducible show wpAny _ _ (call (Value.builtin "str.join") [Value.str _ _, Value.ref _]) _ _ _); k_dflt (refine' join_listC ?k1 ?k2 ?k3 ?k4 ?_; (case k1 => exact News.isList (by k_asm) (by k_mem)); (case k2 => with_reducible assumption); (case k3 => decide); (case k4 => with_reducible assumption); k_whole); intro _ _)
  k_with "binaryOp Add str str" => (k_here; (with_reducible show wpAny _ _ (binaryOp Operator.Add (Value.str _ _) (Value.str _ _)) _ _ _); (refine' PyProof.Rows.add_str ?_ ?z; (case z => with_reducible assumption)); intro _ _)
  k_with "MY enter" => (refine' code_def ?k1 ?k2 ?k3 ?k4 ?k5 ?kA ?kF ?kK ?k6 ?k7 ?k8 ?k9 ?kB ?_ ?c2 ?c3 ?c4 ?c5; (case kA => exact rfl); (case kF => exact rfl); (case kK => first | assumption | exact rfl); (case k1 => k_asm); (case k2 => k_asm); (case k3 => k_asm); (case k4 => k_asm); (case k5 => k_asm); (case k6 => k_is); (case k7 => k_is); (case k8 => ktr_room); (case k9 => first | exact BindsTo.of_eq rfl | exact binds_K (by k_in) rfl (by k_is) rfl rfl rfl); (case c5 => decide); (case kB => exact locs rfl); (case c2 => exact rfl); (case c3 => exact rfl); (case c4 => exact rfl); k_whole; intro _ _ _ _ _ _ _ _ _; (try dsimp only); (try k_fold))
  k_with "compareOp Is" => (k_here; (with_reducible show wpAny _ _ (compareOp CmpOp.Is (Value.str _ _) (Value.ref _)) _ _ _); refine wpAny_is_other (by rfl) (by intro x; cases x) ?_)
  k_with "exec For Name Name cons nil" => (k_here; (with_unfolding_all refine' For_turns (by k_asm) ?_; k_whole))
  trivial
abbrev ent (w : World) (k : String) (t : Tok) (v : Value) : DictEntry := ⟨PyData.keyHash w.params (Str.ofString k), .str (Str.ofString k) t, v⟩
abbrev sioD (w : World) (x : Str) (p : Int) (t1 t2 t3 u1 u2 u3 : Tok) : Obj := dictOf [ent w "_StringIO__newline" t1 (.str (Str.ofString "\n") u1), ent w "_StringIO__buf" t2 (.str x u2), ent w "_StringIO__pos" t3 (.int p u3)] 3
theorem allNe_ne {d : Nat} : ∀ {l : List (Addr × Obj)}, AllNe d l → ∀ p ∈ l, p.1 ≠ d
  | [], _, _, h => nomatch h
  | q :: l, ⟨h1, h2⟩, p, hp => by
    rcases List.mem_cons.mp hp with rfl | hp
    · exact h1
    · exact allNe_ne h2 p hp
local macro_rules | `(tactic| k_all) => `(tactic| exact allNe_ne (by with_reducible assumption))
theorem index_C (w : World) (mean : ExcName → Option Value) (mg mb : Str → Option Value) (news : List (Addr × Obj)) (y : Str) (t1 ty : Tok) :
    TClaim w mean mg mb news 180 3 [.int 1 t1, .str y ty] (fun Q h₀ L m s => ∀ (t : Tok) (h' : Heap) (tk' : Nat), Fr h₀ L h' m → News h₀ L h' news → Q (.int 1 t) { s with heap := h', toks := tk' }) := by
  dsimp only [TClaim]
  intros
  rename_i hret
  refine wpAny_call ?_
  k_dflt cell_enter
  k_steps
  exact hret _ _ _ (by k_asm) (by assumption)
theorem lines_14 : True := by
  k_with "call ref" => (k_here; (with_reducible show wpAny _ _ (call (Value.ref 180) [Value.int 1 _, Value.str _ _]) _ _ _); k_dflt (refine' TClaim.use (index_C _ _ _ _ _ _ _ _) ?k1 ?k2 ?k3 ?k4 ?k5 ?k6 ?k7 ?k8 ?_; (case k1 => k_asm); (case k2 => k_asm); (case k3 => k_asm); (case k4 => k_asm); (case k5 => k_asm); (case k6 => first | exact rfl | assumption); (case k7 => ktr_room); (case k8 => ktr_units); k_whole); (intro _ _ _ _ _); (try k_sweep))
  trivial
theorem check_C (w : World) (mean : ExcName → Option Value) (mg mb : Str → Option Value) (news : List (Addr × Obj)) (S D : Addr) (x : Str) (p : Int) (t1 t2 t3 u1 u2 u3 : Tok) (hSD : @Ne Nat D S) :
    TClaim w mean mg mb ((S, instObj 714 D) :: (D, sioD w x p t1 t2 t3 u1 u2 u3) :: news) 498 2 [.ref S] (fun Q h₀ L m s => ∀ (h' : Heap) (tk' : Nat), Fr h₀ L h' m → News h₀ L h' ((S, instObj 714 D) :: (D, sioD w x p t1 t2 t3 u1 u2 u3) :: news) → Q .none { s with heap := h', toks := tk' }) := by
  dsimp only [TClaim]
  intros
  rename_i hret
  refine wpAny_call ?_
  k_dflt cell_enter
  k_steps
  exact hret _ _ (by k_asm) (by assumption)
theorem lines_15 : True := by
  k_with "call ref" => (k_here; (show wpAny _ _ (call (Value.ref 498) [Value.ref _]) _ _ _); k_dflt (refine' TClaim.use (check_C _ _ _ _ _ _ _ _ _ _ _ _ _ _ _ (by assumption)) ?k1 ?k2 ?k3 ?k4 ?k5 ?k6 ?k7 ?k8 ?_; (case k1 => k_asm); (case k2 => k_asm); (case k3 => k_asm); (case k4 => k_asm); (case k5 => k_asm); (case k6 => first | exact rfl | assumption); (case k7 => ktr_room); (case k8 => ktr_units); k_whole); (intro _ _ _ _); (try k_sweep))
  trivial
abbrev chAt (x : Str) (p : Int) : Str := Txt.slice x (some p) (some (p + 1))
theorem read_C (w : World) (mean : ExcName → Option Value) (mg mb : Str → Option Value) (news : List (Addr × Obj)) (S D : Addr) (x : Str) (p : Int) (t1 t2 t3 u1 u2 u3 tt : Tok) (hx : x.length ≤ 100000) (h0 : 0 ≤ p) (h1 : p < x.length) (hSD : @Ne Nat D S) (hN : AllNe D news) :
    TClaim w mean mg mb ((S, instObj 714 D) :: (D, sioD w x p t1 t2 t3 u1 u2 u3) :: news) 660 6 [.ref S, .int 1 tt] (fun Q h₀ L m s => ∀ (t u3' : Tok) (h' : Heap) (tk' : Nat), Fr h₀ L h' m → News h₀ L h' ((S, instObj 714 D) :: (D, sioD w x (p + 1) t1 t2 t3 u1 u2 u3') :: news) → Q (.str (chAt x p) t) { s with heap := h', toks := tk' }) := by
  dsimp only [TClaim]
  intros
  rename_i hret
  refine wpAny_call ?_
  k_dflt (walk_at "MY enter")
  k_steps
  · exact hret _ _ _ _ (by k_asm) (cb_drop (by assumption) (by kcj_all))
  · generalize hq : (x.length : Int) = q at *
    have e : q = p + 1 := by omega
    subst e
    exact hret _ _ _ _ (by k_asm) (cb_drop (by assumption) (by kcj_all))
theorem read_end (w : World) (mean : ExcName → Option Value) (mg mb : Str → Option Value) (news : List (Addr × Obj)) (S D : Addr) (x : Str) (p : Int) (t1 t2 t3 u1 u2 u3 tt : Tok) (hx : x.length ≤ 100000) (h1 : p = x.length) (hSD : @Ne Nat D S) (hN : AllNe D news) :
    TClaim w mean mg mb ((S, instObj 714 D) :: (D, sioD w x p t1 t2 t3 u1 u2 u3) :: news) 660 6 [.ref S, .int 1 tt] (rText ((S, instObj 714 D) :: (D, sioD w x p t1 t2 t3 u1 u2 u3) :: news) (Str.ofString "")) := by
  subst h1
  dsimp only [TClaim]
  intros
  rename_i hret
  refine wpAny_call ?_
  k_dflt (walk_at "MY enter")
  k_steps
  exact hret _ _ _ (by k_asm) (cb_drop (by assumption) (by kcj_all))
end R1_

section N2_
theorem lines_16 : True := by
  k_with_none
  k_with "call builtin:issubclass" => (k_here; (with_reducible show wpAny _ _ (call (Value.builtin "issubclass") [Value.type "str", Value.ref _]) _ _ _); k_dflt (refine' issub_K ?k1 ?k2 ?_; (case k1 => k_asm); (case k2 => k_mem); k_whole); intro _)
  k_with "call ref" => (k_here; (with_reducible show wpAny _ _ (call (Value.ref 117) [Value.str _ _]) _ _ _); k_dflt (refine' TClaim.use (fspath_C _ _ _ _ _ _ _) ?k1 ?k2 ?k3 ?k4 ?k5 ?k6 ?k7 ?k8 ?_; (case k1 => k_asm); (case k2 => k_asm); (case k3 => k_asm); (case k4 => k_asm); (case k5 => k_asm); (case k6 => first | exact rfl | assumption); (case k7 => ktr_room); (case k8 => ktr_units); k_whole); (intro _ _ _ _); (try k_sweep))
  k_with "call ref" => ((k_here; (with_reducible show wpAny _ _ (call (Value.ref 145) [Value.str _ _]) _ _ _); k_dflt (refine' TClaim.use (splitroot_C _ _ _ _ _ _ _ (by kt_len)) ?k1 ?k2 ?k3 ?k4 ?k5 ?k6 ?k7 ?k8 ?_; (case k1 => k_asm); (case k2 => k_asm); (case k3 => k_asm); (case k4 => k_asm); (case k5 => k_asm); (case k6 => first | exact rfl | assumption); (case k7 => ktr_room); (case k8 => ktr_units); k_whole); (intro _ _ _ _ _ _ _ _ e1 e2 _ _ l1 _); (try k_lt l1); (subst e1 e2); (try k_sweep)); (try (revert l1; intro _)))
  k_with "call builtin:str.split" => ((k_here; (with_reducible show wpAny _ _ (call (Value.builtin "str.split") [Value.str _ _, Value.str (PySem.Str.ofString "/") _]) _ _ _); (refine KSpl.split1 (by k_asm) (by k_asm) (by decide) ?_ (by rw [PySem.sizeLine_eq]; omega)); (intro _ _ _ _ _ _ _ _ l1); (try k_lt l1)); (try (revert l1; intro _)))
  k_with "call builtin:list.append" => (k_here; (with_reducible show wpAny _ _ (call (Value.builtin _) [Value.ref _, _]) _ _ _); k_dflt (refine' append_L ?k1 ?k2 ?k3 ?z ?_; (case k1 => k_asm); (case k2 => k_asm); (case k3 => k_upd); (case z => with_reducible assumption); k_whole); intro _ _ _; (try k_sweep))
  k_with "call builtin:list.pop" => (k_here; k_dflt (refine' pop_snoc ?k1 ?k2 ?k3 ?z ?_; (case k1 => k_asm); (case k2 => k_asm); (case k3 => k_upd); (case z => with_reducible assumption); k_whole); intro _ _ _; (try k_sweep))
  k_with "subscriptTail Name UnaryOp ref int" => (k_here; (with_reducible show wpAny _ _ (subscriptTail _ _ (Value.ref _) (Value.int _ _)) _ _ _); (with_unfolding_all refine' last_snoc ?k1 ?k2 ?_ ?k3 ?k4; (case k1 => k_asm); (case k2 => k_mem); (case k3 => with_unfolding_all rfl); (case k4 => (intro _; with_unfolding_all rfl)); k_whole))
  k_with "truthy ref" => (k_here; (with_reducible show wpAny _ _ (truthy (Value.ref _)) _ _ _); k_dflt (refine' truthy_strs ?k1 ?k2 ?k3 ?k4 ?g0 ?g1; (case k1 => k_asm); (case k2 => k_mem); (case k3 => with_reducible assumption); (case k4 => with_reducible assumption)); (case' g0 => (intro e1 _; subst e1)); (case' g1 => (intro _ _ _ _ e1 _ _; subst e1)))
  k_with "truthy ref" => (k_here; (with_reducible show wpAny _ _ (truthy (Value.ref _)) _ _ _); k_dflt (refine' truthy_snoc ?k1 ?k2 ?k4 ?_; (case k1 => k_asm); (case k2 => k_mem); (case k4 => with_reducible assumption); k_whole))
  k_with "TPost" => (dsimp only [TPost])
  trivial
theorem lines_17 : True := by
  k_with "truthy str" => (k_here; (with_reducible show wpAny _ _ (PySem.truthy (Value.str _ _)) _ _ _); (refine' KXt.truthy_pos ?kxta ?kxtb ?kxtc ?_; (case kxta => with_reducible assumption); (case kxtb => with_reducible assumption); (case kxtc => exact Nat.le_of_ble_eq_true rfl)); intro _)
  k_with "call builtin:str.join" => (k_here; (with_reducible show wpAny _ _ (call (Value.builtin "str.join") [Value.str _ _, Value.ref _]) _ _ _); k_dflt (refine' join_listC ?k1 ?k2 ?k3 ?k4 ?_; (case k1 => exact News.isList (by k_asm) (by k_mem)); (case k2 => with_reducible assumption); (case k3 => decide); (case k4 => with_reducible assumption); k_whole); intro _ _)
  k_with "binaryOp Add str str" => (k_here; (with_reducible show wpAny _ _ (binaryOp Operator.Add (Value.str _ _) (Value.str _ _)) _ _ _); (refine' PyProof.Rows.add_str ?_ ?z; (case z => with_reducible assumption)); intro _ _)
  k_with "MY enter" => (refine' code_def ?k1 ?k2 ?k3 ?k4 ?k5 ?kA ?kF ?kK ?k6 ?k7 ?k8 ?k9 ?kB ?_ ?c2 ?c3 ?c4 ?c5; (case kA => exact rfl); (case kF => exact rfl); (case kK => assumption); (case k1 => k_asm); (case k2 => k_asm); (case k3 => k_asm); (case k4 => k_asm); (case k5 => k_asm); (case k6 => k_is); (case k7 => k_is); (case k8 => ktr_room); (case k9 => first | exact BindsTo.of_eq rfl | exact binds_K (by k_in) rfl (by k_is) rfl rfl rfl); (case c5 => decide); (case kB => exact locs rfl); (case c2 => exact rfl); (case c3 => exact rfl); (case c4 => exact rfl); k_whole; intro _ _ _ _ _ _ _ _ _; (try dsimp only); (try k_fold))
  k_with "compareOp Is" => (k_here; (with_reducible show wpAny _ _ (compareOp CmpOp.Is (Value.str _ _) (Value.ref _)) _ _ _); refine wpAny_is_other (by rfl) (by intro x; cases x) ?_)
  k_with "exec For Name Name cons nil" => (k_here; (with_unfolding_all refine' For_turns (by k_asm) ?_; k_whole))
  trivial
section
open PySem.Calls Builtin Builtin.ObjectAttr
variable {w : World} {A : Around} {s : Shared} {h₀ : Heap} {L : Addr} {m : Str → Option Value} {news : List (Addr × Obj)} {R : Result → Shared → Prop}
abbrev o714 : Obj := { cls := Value.type "type", data := Data.cls { name := Str.ofString "StringIO", bases := [Value.ref 237], mro := [Value.ref 714, Value.ref 237, Value.ref 210, Value.type "object"], ns := 713, qualname := Str.ofString "StringIO" }, slots := #[some (Value.ref 470), none, some (Value.str (Str.ofString "StringIO") 914), some (Value.str (Str.ofString "StringIO") 922), some Value.none, some (Value.bool true)] }
def NewBack (w : World) (A' : Around) (rest : List Value) (R : Result → Shared → Prop) (r : Result) (s₂ : Shared) : Prop := match r with
  | .ok (.ret obj) => ∃ x dx, obj = .ref x ∧ (hd.heap_39 w.params).In s₂.heap ∧ s₂.heap.get? x = some (instObj 714 dx) ∧ codeAny (model PG w) A' (.call (.ref 484) ⟨.ref x :: rest, []⟩) (InitBack x R) s₂
  | .ok _ => False
  | .error e => R (.error e) s₂
theorem sio_class {rest : List Value} (F : Fr h₀ L s.heap m) (X₀ : (hd.heap_39 w.params).In h₀)
    (h : codeAny (model PG w) (A.under (.builtin "type.__call__" ⟨.ref 714 :: rest, []⟩)) (.call (.ref 207) ⟨.ref 714 :: rest, []⟩) (NewBack w (A.under (.builtin "type.__call__" ⟨.ref 714 :: rest, []⟩)) rest R) { s with toks := s.toks + 1 }) :
    codeAny (model PG w) A (.call (.ref 714) ⟨rest, []⟩) R s := by
  have X := X₀.keeps F.keep
  obtain ⟨hh, g, d, t, os⟩ := s
  have hC : hh.get? 714 = some o714 := X 714 _ (by kernel_rfl)
  have call : Looks (model PG w) hh (specialOf (.ref 714) "__call__") (some (.builtin "type.__call__")) := looks_specialIn X (by kernel_rfl)
  have typ : Looks (model PG w) hh (isInstance (.ref 714) (.type "type")) true := looks_instIn X (by kernel_rfl)
  have hm : Looks (model PG w) hh (mroOf (.ref 714)) [.ref 714, .ref 237, .ref 210, .type "object"] := Looks.of_peek X (by kernel_rfl)
  have made : Looks (model PG w) hh (Bind.madeBy (.ref 714)) none := Looks.of_peek X (by kernel_rfl)
  refine codeAny_of_tree ?_
  show wpAny _ _ (callAny (.ref 714) _) _ _ _
  refine nd_load hC ?_
  show wpAny _ _ (callAny.viaDunder (.ref 714) _) _ _ _
  unfold callAny.viaDunder
  refine wpAny_bind (call.at ?_)
  dsimp only
  rw [tc_bind]
  refine wpAny_bind (wpAny_pure (wpAny_bind (wpAny_pure ?_)))
  refine wpAny_pure (a := Fin.again (.call (.builtin "type.__call__") ⟨.ref 714 :: rest, []⟩)) (And.intro rfl ?_)
  refine codeAny_call_builtin_at (Code.quiet_builtin _ (by decide +kernel)) entry_typeCall (check_slot tc_kind tc_split typ (tc_args _ _ _) ?_)
  unfold Builtin.«type.__call__»
  have c1 : typeIn (hd.heap_39 w.params) (.ref 714) = some (.type "type") := by kernel_rfl
  have c2 : readsIn (hd.heap_39 w.params) 714 (.type "type") = true := by kernel_rfl
  have c3 : findCls (hd.heap_39 w.params) (.ref 714) (.type "type") (Str.ofString "__new__") = some (.get (.builtin "staticmethod.__get__") (.ref 211) .none (.ref 714)) := by kernel_rfl
  have c4 : recIn (hd.heap_39 w.params) 211 "staticmethod" = some [.ref 207] := by kernel_rfl
  have i0 : Looks (model PG w) hh (isSubtype (.ref 714) (.ref 714)) true := looks_subIn X (by kernel_rfl)
  have hi : Looks (model PG w) hh (typeLookup (.ref 714) "__init__") (some (.ref 484)) := looks_findIn X (by kernel_rfl)
  have b0 : typeIn (hd.heap_39 w.params) (.ref 484) = some (.type "function") := by kernel_rfl
  repeat (first | (with_reducible refine cls_sm F X₀ c1 c2 c3 c4 rfl ?_) | simp only [Bool.false_eq_true, if_false] | with_reducible refine wpAny_call ?_ | lk)
  refine codeAny_mono h fun r s₂ hx => ?_
  rcases r with e | (obj | _ | _ | _) <;> first | exact hx | exact hx.elim | skip
  obtain ⟨x, dx, rfl, X₂, hx, hc⟩ := hx
  obtain ⟨h2, g2, d2, t2, os2⟩ := s₂
  dsimp only at hx X₂
  have t1 : Looks (model PG w) h2 (typeOf (.ref x)) (.ref 714) := (Looks.ld hx).andThen .now
  have s1 : Looks (model PG w) h2 (isSubtype (.ref 714) (.ref 714)) true := looks_subIn X₂ (by kernel_rfl)
  have i1 : Looks (model PG w) h2 (typeLookup (.ref 714) "__init__") (some (.ref 484)) := looks_findIn X₂ (by kernel_rfl)
  have b1 := bind_fn (M := model PG w) X₂ (.ref x) b0
  unfold isInstance callSpecial? specialOf
  repeat (first | with_reducible refine wpAny_call ?_ | lk)
  refine codeAny_mono hc fun r s' z => ?_
  rcases r with e | (v | _ | _ | _) <;> first | exact z | exact z.elim | skip
  obtain ⟨rfl, z⟩ := z
  exact wpAny_pure (wpAny_pure z)
theorem sio_objnew {hh : Heap} {g : Array GenState} {d : Drawn} {t : Nat} {os : OsState} (X : (hd.heap_39 w.params).In hh)
    (hq : R (.ok (.ret (.ref (hh.objs.size + 1)))) ⟨(hh.push emptyDict).push (instObj 714 hh.objs.size), g, d, t, os⟩) :
    codeAny (model PG w) A (.call (.builtin "object.__new__") ⟨[.ref 714], []⟩) R ⟨hh, g, d, t, os⟩ := by
  have F := PySem.F.objNew
  have hC : hh.get? 714 = some o714 := X 714 _ (by kernel_rfl)
  have typ : Looks (model PG w) hh (isInstance (.ref 714) (.type "type")) true := looks_instIn X (by kernel_rfl)
  have self : Looks (model PG w) hh (isSubtype (.ref 714) (.ref 714)) true := looks_subIn X (by kernel_rfl)
  have top : Looks (model PG w) hh (isSubtype (.ref 714) (.type "object")) true := looks_subIn X (by kernel_rfl)
  have hi : Looks (model PG w) hh (typeLookup (.ref 714) "__init__") (some (.ref 484)) := looks_findIn X (by kernel_rfl)
  have here : Looks (model PG w) hh (Bind.madeHere "object.__new__" (.ref 714)) () := Looks.of_peek X (by kernel_rfl)
  have base : Looks (model PG w) hh (Bind.staticBase (.ref 714)) (.type "object") := Looks.of_peek X (by kernel_rfl)
  have made : Looks (model PG w) hh (Bind.madeBy (.ref 714)) none := Looks.of_peek X (by kernel_rfl)
  have madeO : Looks (model PG w) hh (Bind.madeBy (.type "object")) (some "object.__new__") := Looks.of_peek X (by kernel_rfl)
  have args : Bind.checkArgs "object.__new__" ⟨.hand, "object.__new__", "__new__", .cls, []⟩ ⟨[.ref 714], []⟩ = pure () := by kernel_rfl
  refine codeAny_call_builtin_code (Code.quiet_builtin _ F.quiet) ?_
  simp only [checkBuiltinCall, F.kind, F.split, F.row]
  rw [args]
  repeat (first | simp only [bne_self_eq_false, Bool.false_eq_true, if_false] | lk)
  refine codeAny_builtin F.entry ?_
  unfold Builtin.«object.__new__»
  have hC2 : ((hh.push emptyDict).push (instObj 714 hh.objs.size)).get? 714 = some o714 := Heap.get?_push_of_some _ (Heap.get?_push_of_some _ hC)
  have hC1 : (hh.push emptyDict).get? 714 = some o714 := Heap.get?_push_of_some _ hC
  have e2 : (hh.push emptyDict).objs.size = hh.objs.size + 1 := Heap.size_push ..
  repeat (first | simp only [bne_self_eq_false, Bool.false_eq_true, if_false] | lk)
  rw [Heap.size_push]
  exact hq
theorem sio_objnew_K {Q : Value → Shared → Prop} {E : Value → Shared → Prop} (F : Fr h₀ L s.heap m) (X₀ : (hd.heap_39 w.params).In h₀) (N : News h₀ L s.heap news)
    (h : ∀ (x dx : Addr) h', Fr h₀ L h' m → News h₀ L h' ((x, instObj 714 dx) :: (dx, dictOf [] 0) :: news) → (∀ p ∈ news, p.1 < dx) → dx < x → Q (.ref x) { s with heap := h' }) :
    wpAny (model PG w) A (call (.builtin "object.__new__") [.ref 714]) Q E s := by
  have X := X₀.keeps F.keep
  obtain ⟨hh, g, d, t, os⟩ := s
  refine wpAny_call (sio_objnew X ?_)
  have N' := (N.push F emptyDict).push (F.push _) (instObj 714 hh.objs.size)
  rw [Heap.size_push] at N'
  exact h _ _ _ ((F.push _).push _) N' (fun p hp => Heap.lt_size (N p hp).1) (Nat.lt_succ_self _)
end
end N2_

section N3_
theorem lines_18 : True := by
  k_with_none
  k_with "call builtin:issubclass" => (k_here; (with_reducible show wpAny _ _ (call (Value.builtin "issubclass") [Value.type "str", Value.ref _]) _ _ _); k_dflt (refine' issub_K ?k1 ?k2 ?_; (case k1 => k_asm); (case k2 => k_mem); k_whole); intro _)
  k_with "call ref" => (k_here; (with_reducible show wpAny _ _ (call (Value.ref 117) [Value.str _ _]) _ _ _); k_dflt (refine' TClaim.use (fspath_C _ _ _ _ _ _ _) ?k1 ?k2 ?k3 ?k4 ?k5 ?k6 ?k7 ?k8 ?_; (case k1 => k_asm); (case k2 => k_asm); (case k3 => k_asm); (case k4 => k_asm); (case k5 => k_asm); (case k6 => first | exact rfl | assumption); (case k7 => ktr_room); (case k8 => ktr_units); k_whole); (intro _ _ _ _); (try k_sweep))
  k_with "call ref" => ((k_here; (with_reducible show wpAny _ _ (call (Value.ref 145) [Value.str _ _]) _ _ _); k_dflt (refine' TClaim.use (splitroot_C _ _ _ _ _ _ _ (by kt_len)) ?k1 ?k2 ?k3 ?k4 ?k5 ?k6 ?k7 ?k8 ?_; (case k1 => k_asm); (case k2 => k_asm); (case k3 => k_asm); (case k4 => k_asm); (case k5 => k_asm); (case k6 => first | exact rfl | assumption); (case k7 => ktr_room); (case k8 => ktr_units); k_whole); (intro _ _ _ _ _ _ _ _ e1 e2 _ _ l1 _); (try k_lt l1); (subst e1 e2); (try k_sweep)); (try (revert l1; intro _)))
  k_with "call builtin:str.split" => ((k_here; (with_reducible show wpAny _ _ (call (Value.builtin "str.split") [Value.str _ _, Value.str (PySem.Str.ofString "/") _]) _ _ _); (refine KSpl.split1 (by k_asm) (by k_asm) (by decide) ?_ (by rw [PySem.sizeLine_eq]; omega)); (intro _ _ _ _ _ _ _ _ l1); (try k_lt l1)); (try (revert l1; intro _)))
  k_with "call builtin:list.append" => (k_here; (with_reducible show wpAny _ _ (call (Value.builtin _) [Value.ref _, _]) _ _ _); k_dflt (refine' append_L ?k1 ?k2 ?k3 ?z ?_; (case k1 => k_asm); (case k2 => k_asm); (case k3 => k_upd); (case z => with_reducible assumption); k_whole); intro _ _ _; (try k_sweep))
  k_with "call builtin:list.pop" => (k_here; k_dflt (refine' pop_snoc ?k1 ?k2 ?k3 ?z ?_; (case k1 => k_asm); (case k2 => k_asm); (case k3 => k_upd); (case z => with_reducible assumption); k_whole); intro _ _ _; (try k_sweep))
  k_with "subscriptTail Name UnaryOp ref int" => (k_here; (with_reducible show wpAny _ _ (subscriptTail _ _ (Value.ref _) (Value.int _ _)) _ _ _); (with_unfolding_all refine' last_snoc ?k1 ?k2 ?_ ?k3 ?k4; (case k1 => k_asm); (case k2 => k_mem); (case k3 => with_unfolding_all rfl); (case k4 => (intro _; with_unfolding_all rfl)); k_whole))
  k_with "truthy ref" => (k_here; (with_reducible show wpAny _ _ (truthy (Value.ref _)) _ _ _); k_dflt (refine' truthy_strs ?k1 ?k2 ?k3 ?k4 ?g0 ?g1; (case k1 => k_asm); (case k2 => k_mem); (case k3 => with_reducible assumption); (case k4 => with_reducible assumption)); (case' g0 => (intro e1 _; subst e1)); (case' g1 => (intro _ _ _ _ e1 _ _; subst e1)))
  k_with "truthy ref" => (k_here; (with_reducible show wpAny _ _ (truthy (Value.ref _)) _ _ _); k_dflt (refine' truthy_snoc ?k1 ?k2 ?k4 ?_; (case k1 => k_asm); (case k2 => k_mem); (case k4 => with_reducible assumption); k_whole))
  k_with "TPost" => (dsimp only [TPost])
  trivial
theorem lines_19 : True := by
  k_with "truthy str" => (k_here; (with_reducible show wpAny _ _ (PySem.truthy (Value.str _ _)) _ _ _); (refine' KXt.truthy_pos ?kxta ?kxtb ?kxtc ?_; (case kxta => with_reducible assumption); (case kxtb => with_reducible assumption); (case kxtc => exact Nat.le_of_ble_eq_true rfl)); intro _)
  k_with "call builtin:str.join" => (k_here; (with_reducible show wpAny _ _ (call (Value.builtin "str.join") [Value.str _ _, Value.ref _]) _ _ _); k_dflt (refine' join_listC ?k1 ?k2 ?k3 ?k4 ?_; (case k1 => exact News.isList (by k_asm) (by k_mem)); (case k2 => with_reducible assumption); (case k3 => decide); (case k4 => with_reducible assumption); k_whole); intro _ _)
  k_with "binaryOp Add str str" => (k_here; (with_reducible show wpAny _ _ (binaryOp Operator.Add (Value.str _ _) (Value.str _ _)) _ _ _); (refine' PyProof.Rows.add_str ?_ ?z; (case z => with_reducible assumption)); intro _ _)
  k_with "MY enter" => (refine' code_def ?k1 ?k2 ?k3 ?k4 ?k5 ?kA ?kF ?kK ?k6 ?k7 ?k8 ?k9 ?kB ?_ ?c2 ?c3 ?c4 ?c5; (case kA => exact rfl); (case kF => exact rfl); (case kK => first | assumption | exact rfl); (case k1 => k_asm); (case k2 => k_asm); (case k3 => k_asm); (case k4 => k_asm); (case k5 => k_asm); (case k6 => k_is); (case k7 => k_is); (case k8 => ktr_room); (case k9 => first | exact BindsTo.of_eq rfl | exact binds_K (by k_in) rfl (by k_is) rfl rfl rfl); (case c5 => decide); (case kB => exact locs rfl); (case c2 => exact rfl); (case c3 => exact rfl); (case c4 => exact rfl); k_whole; intro _ _ _ _ _ _ _ _ _; (try dsimp only); (try k_fold))
  k_with "compareOp Is" => (k_here; (with_reducible show wpAny _ _ (compareOp CmpOp.Is (Value.str _ _) (Value.ref _)) _ _ _); refine wpAny_is_other (by rfl) (by intro x; cases x) ?_)
  k_with "exec For Name Name cons nil" => (k_here; (with_unfolding_all refine' For_turns (by k_asm) ?_; k_whole))
  k_with "MY both" => ((refine' kp_both ?k1 ?k2 ?k3 ?k4 ?k5 ?kA ?kF ?kK ?k6 ?k7 ?k8 ?kV ?kX ?kQ ?kM ?kN ?kD ?kR ?kP ?kS ?kT ?kB ?_ ?c2 ?c3 ?c4 ?c5; (case kA => exact rfl); (case kF => exact rfl); (case kK => first | assumption | exact rfl); (case k1 => k_asm); (case k2 => k_asm); (case k3 => k_asm); (case k4 => k_asm); (case k5 => k_asm); (case k6 => k_is); (case k7 => k_is); (case k8 => ktr_room); (case kV => kp_lit); (case kX => kp_lit); (case kQ => exact rfl); (case kM => exact rfl); (case kN => exact rfl); (case kD => kp_flats); (case kR => exact rfl); (case kP => exact rfl); (case kS => exact fun _ => rfl); (case kT => exact fun _ _ => rfl); (case kB => exact fun _ _ => locs rfl); (case c5 => decide); (case c2 => exact rfl); (case c3 => exact rfl); (case c4 => exact rfl); k_whole; intro _ _ _ _ _ _ _ l1 l2 _ _ _ _ _ _ _ _ _; (try k_lt l1); (try k_lt2 l2); (try dsimp only); (try k_fold)); (try (revert l1; intro _)); (try (revert l2; intro _)))
  k_with "call builtin:object.__new__" => ((k_here; (show wpAny _ _ (call (Value.builtin "object.__new__") [Value.ref 714]) _ _ _); k_dflt (refine' sio_objnew_K ?k1 ?k2 ?k3 ?_; (case k1 => k_asm); (case k2 => k_asm); (case k3 => k_asm); k_whole); intro _ _ _ _ _ l1 l2; (try k_lt l1); (try k_lt2 l2); (try k_sweep)); (try (revert l1; intro _)); (try (revert l2; intro _)))
  trivial
theorem nb_intro {w : World} {A' : Around} {rest : List Value} {R : Result → Shared → Prop} {s₂ : Shared} {h₀ : Heap} {L x dx : Addr} {nws : List (Addr × Obj)} (N : News h₀ L s₂.heap nws) (hm : (x, instObj 714 dx) ∈ nws) (X : (hd.heap_39 w.params).In s₂.heap)
    (hc : codeAny (model PG w) A' (.call (.ref 484) ⟨.ref x :: rest, []⟩) (InitBack x R) s₂) : NewBack w A' rest R (.ok (.ret (.ref x))) s₂ := ⟨x, dx, rfl, X, (N _ hm).1, hc⟩
theorem lines_20 : True := by
  k_with "call ref" => (k_here; (show wpAny _ _ (call (Value.ref 491) [Value.ref _, Value.str _ _]) _ _ _); (refine wpAny_call ?_); k_dflt (walk_at "MY enter"))
  trivial
theorem sio_C (w : World) (mean : ExcName → Option Value) (mg mb : Str → Option Value) (news : List (Addr × Obj)) (x : Str) (tx : Tok) (hx : x.length ≤ 100000) :
    TClaim w mean mg mb news 714 8 [.str x tx] (fun Q h₀ L m s => ∀ (S D : Addr) (t1 t2 t3 u1 u2 u3 : Tok) (h' : Heap) (tk' : Nat), Fr h₀ L h' m → News h₀ L h' ((S, instObj 714 D) :: (D, sioD w x 0 t1 t2 t3 u1 u2 u3) :: news) → AllLt D news → @LT.lt Nat _ D S → Q (.ref S) { s with heap := h', toks := tk' }) := by
  dsimp only [TClaim]
  intros
  rename_i hret
  refine wpAny_call ?_
  refine sio_class (by assumption) (by assumption) ?_
  k_dflt (walk_at "MY both")
  k_steps
  refine' nb_intro ?a ?b ?c ?_
  (case a => k_asm); (case b => k_mem); (case c => k_in)
  k_dflt (walk_at "MY enter")
  k_steps
  exact hret _ _ _ _ _ _ _ _ _ _ (by k_asm) (cb_drop (by assumption) (by kcj_all)) (by first | assumption | exact (by assumption : _ ∧ _ ∧ AllLt _ news).2.2) (by assumption)
end N3_

section TK6_
theorem lines_21 : True := by
  k_with_none
  k_with "call builtin:issubclass" => (k_here; (with_reducible show wpAny _ _ (call (Value.builtin "issubclass") [Value.type "str", Value.ref _]) _ _ _); k_dflt (refine' issub_K ?k1 ?k2 ?_; (case k1 => k_asm); (case k2 => k_mem); k_whole); intro _)
  k_with "call ref" => (k_here; (with_reducible show wpAny _ _ (call (Value.ref 117) [Value.str _ _]) _ _ _); k_dflt (refine' TClaim.use (fspath_C _ _ _ _ _ _ _) ?k1 ?k2 ?k3 ?k4 ?k5 ?k6 ?k7 ?k8 ?_; (case k1 => k_asm); (case k2 => k_asm); (case k3 => k_asm); (case k4 => k_asm); (case k5 => k_asm); (case k6 => first | exact rfl | assumption); (case k7 => ktr_room); (case k8 => ktr_units); k_whole); (intro _ _ _ _); (try k_sweep))
  k_with "call ref" => ((k_here; (with_reducible show wpAny _ _ (call (Value.ref 145) [Value.str _ _]) _ _ _); k_dflt (refine' TClaim.use (splitroot_C _ _ _ _ _ _ _ (by kt_len)) ?k1 ?k2 ?k3 ?k4 ?k5 ?k6 ?k7 ?k8 ?_; (case k1 => k_asm); (case k2 => k_asm); (case k3 => k_asm); (case k4 => k_asm); (case k5 => k_asm); (case k6 => first | exact rfl | assumption); (case k7 => ktr_room); (case k8 => ktr_units); k_whole); (intro _ _ _ _ _ _ _ _ e1 e2 _ _ l1 _); (try k_lt l1); (subst e1 e2); (try k_sweep)); (try (revert l1; intro _)))
  k_with "call builtin:str.split" => ((k_here; (with_reducible show wpAny _ _ (call (Value.builtin "str.split") [Value.str _ _, Value.str (PySem.Str.ofString "/") _]) _ _ _); (refine KSpl.split1 (by k_asm) (by k_asm) (by decide) ?_ (by rw [PySem.sizeLine_eq]; omega)); (intro _ _ _ _ _ _ _ _ l1); (try k_lt l1)); (try (revert l1; intro _)))
  k_with "call builtin:list.append" => (k_here; (with_reducible show wpAny _ _ (call (Value.builtin _) [Value.ref _, _]) _ _ _); k_dflt (refine' append_L ?k1 ?k2 ?k3 ?z ?_; (case k1 => k_asm); (case k2 => k_asm); (case k3 => k_upd); (case z => with_reducible assumption); k_whole); intro _ _ _; (try k_sweep))
  k_with "call builtin:list.pop" => (k_here; k_dflt (refine' pop_snoc ?k1 ?k2 ?k3 ?z ?_; (case k1 => k_asm); (case k2 => k_asm); (case k3 => k_upd); (case z => with_reducible assumption); k_whole); intro _ _ _; (try k_sweep))
  k_with "subscriptTail Name UnaryOp ref int" => (k_here; (with_reducible show wpAny _ _ (subscriptTail _ _ (Value.ref _) (Value.int _ _)) _ _ _); (with_unfolding_all refine' last_snoc ?k1 ?k2 ?_ ?k3 ?k4; (case k1 => k_asm); (case k2 => k_mem); (case k3 => with_unfolding_all rfl); (case k4 => (intro _; with_unfolding_all rfl)); k_whole))
  k_with "truthy ref" => (k_here; (with_reducible show wpAny _ _ (truthy (Value.ref _)) _ _ _); k_dflt (refine' truthy_strs ?k1 ?k2 ?k3 ?k4 ?g0 ?g1; (case k1 => k_asm); (case k2 => k_mem); (case k3 => with_reducible assumption); (case k4 => with_reducible assumption)); (case' g0 => (intro e1 _; subst e1)); (case' g1 => (intro _ _ _ _ e1 _ _; subst e1)))
  k_with "truthy ref" => (k_here; (with_reducible show wpAny _ _ (truthy (Value.ref _)) _ _ _); k_dflt (refine' truthy_snoc ?k1 ?k2 ?k4 ?_; (case k1 => k_asm); (case k2 => k_mem); (case k4 => with_reducible assumption); k_whole))
  k_with "TPost" => (dsimp only [TPost])
  k_with "execs cons" => (k_here; (try k_gentoks); (with_reducible refine wpAny_execs_cons ?_); (try dsimp only); (try k_fold))
  trivial
theorem lines_22 : True := by
  k_with "truthy str" => (k_here; (with_reducible show wpAny _ _ (PySem.truthy (Value.str _ _)) _ _ _); (refine' KXt.truthy_pos ?kxta ?kxtb ?kxtc ?_; (case kxta => with_reducible assumption); (case kxtb => with_reducible assumption); (case kxtc => exact Nat.le_of_ble_eq_true rfl)); intro _)
  k_with "call builtin:str.join" => (k_here; (with_reducible show wpAny _ _ (call (Value.builtin "str.join") [Value.str _ _, Value.ref _]) _ _ _); k_dflt (refine' join_listC ?k1 ?k2 ?k3 ?k4 ?_; (case k1 => exact News.isList (by k_asm) (by k_mem)); (case k2 => with_reducible assumption); (case k3 => decide); (case k4 => with_reducible assumption); k_whole); intro _ _)
  k_with "binaryOp Add str str" => (k_here; (with_reducible show wpAny _ _ (binaryOp Operator.Add (Value.str _ _) (Value.str _ _)) _ _ _); (refine' PyProof.Rows.add_str ?_ ?z; (case z => with_reducible assumption)); intro _ _)
  k_with "MY enter" => (refine' code_def ?k1 ?k2 ?k3 ?k4 ?k5 ?kA ?kF ?kK ?k6 ?k7 ?k8 ?k9 ?kB ?_ ?c2 ?c3 ?c4 ?c5; (case kA => exact rfl); (case kF => exact rfl); (case kK => first | assumption | exact rfl); (case k1 => k_asm); (case k2 => k_asm); (case k3 => k_asm); (case k4 => k_asm); (case k5 => k_asm); (case k6 => k_is); (case k7 => k_is); (case k8 => ktr_room); (case k9 => first | exact BindsTo.of_eq rfl | exact binds_K (by k_in) rfl (by k_is) rfl rfl rfl); (case c5 => decide); (case kB => exact locs rfl); (case c2 => exact rfl); (case c3 => exact rfl); (case c4 => exact rfl); k_whole; intro _ _ _ _ _ _ _ _ _; (try dsimp only); (try k_fold))
  k_with "compareOp Is" => (k_here; (with_reducible show wpAny _ _ (compareOp CmpOp.Is (Value.str _ _) (Value.ref _)) _ _ _); refine wpAny_is_other (by rfl) (by intro x; cases x) ?_)
  k_with "exec For Name Name cons nil" => (k_here; (with_unfolding_all refine' For_turns (by k_asm) ?_; k_whole))
  trivial
abbrev lexD (w : World) (S PB FS : Addr) (k u : Nat → Tok) (stv tkv : Value) : Obj := dictOf [ent w "instream" (k 0) (.ref S), ent w "infile" (k 1) .none, ent w "posix" (k 2) (.bool true), ent w "eof" (k 3) .none, ent w "commenters" (k 4) (.str (Str.ofString "") (u 0)), ent w "wordchars" (k 5) (.str WCH (u 1)), ent w "whitespace" (k 6) (.str (Str.ofString " \t\r\n") (u 2)), ent w "whitespace_split" (k 7) (.bool true), ent w "quotes" (k 8) (.str (Str.ofString "'\"") (u 3)), ent w "escape" (k 9) (.str (Str.ofString "\\") (u 4)), ent w "escapedquotes" (k 10) (.str (Str.ofString "\"") (u 5)), ent w "state" (k 11) stv, ent w "pushback" (k 12) (.ref PB), ent w "lineno" (k 13) (.int 1 (u 6)), ent w "debug" (k 14) (.int 0 (u 7)), ent w "token" (k 15) tkv, ent w "filestack" (k 16) (.ref FS), ent w "source" (k 17) .none, ent w "_punctuation_chars" (k 18) (.str (Str.ofString "") (u 8))] 19
abbrev siD (w : World) (x : Str) (p : Int) (t u : Nat → Tok) (up : Tok) : Obj := sioD w x p (t 0) (t 1) (t 2) (u 0) (u 1) up
/-- the ledger of a lexer at work -/
abbrev LED (w : World) (S SD LX LD PB FS : Addr) (x : Str) (p : Int) (t u : Nat → Tok) (up : Tok) (k v : Nat → Tok) (stv tkv : Value) (news : List (Addr × Obj)) : List (Addr × Obj) :=
  (S, instObj 714 SD) :: (SD, siD w x p t u up) :: (LX, instObj 849 LD) :: (LD, lexD w S PB FS k v stv tkv) :: (PB, dqObj) :: (FS, dqObj) :: news
structure Apart (S SD LX LD PB FS : Addr) (news : List (Addr × Obj)) : Prop where
  a1 : @Ne Nat SD S
  a2 : @Ne Nat LX SD
  a3 : @Ne Nat LD SD
  a4 : @Ne Nat PB SD
  a5 : @Ne Nat FS SD
  a6 : AllNe SD news
  b1 : @Ne Nat S LD
  b2 : @Ne Nat SD LD
  b3 : @Ne Nat LX LD
  b4 : @Ne Nat PB LD
  b5 : @Ne Nat FS LD
  b6 : AllNe LD news
structure Held (P : Prop) : Prop where
  out : P
theorem held {P : Prop} (h : Held P) : P := h.out
theorem lines_23 : True := by
  k_with "exec While" => (k_here; (with_reducible show wpAny _ _ (exec (Stmt.While (Expr.Constant _ _ _) _ _ _) _) _ _ _); refine held ?_)
  trivial
theorem read_y (w : World) (mean : ExcName → Option Value) (mg mb : Str → Option Value) (news : List (Addr × Obj)) (S D : Addr) (x y : Str) (p : Int) (t1 t2 t3 u1 u2 u3 tt : Tok) (hx : x.length ≤ 100000) (h0 : 0 ≤ p) (h1 : p < x.length) (hy : chAt x p = y) (hSD : @Ne Nat D S) (hN : AllNe D news) :
    TClaim w mean mg mb ((S, instObj 714 D) :: (D, sioD w x p t1 t2 t3 u1 u2 u3) :: news) 660 6 [.ref S, .int 1 tt] (fun Q h₀ L m s => ∀ (t u3' : Tok) (h' : Heap) (tk' : Nat), Fr h₀ L h' m → News h₀ L h' ((S, instObj 714 D) :: (D, sioD w x (p + 1) t1 t2 t3 u1 u2 u3') :: news) → Q (.str y t) { s with heap := h', toks := tk' }) := by
  subst hy
  exact read_C w mean mg mb news S D x p t1 t2 t3 u1 u2 u3 tt hx h0 h1 hSD hN
theorem lines_24 : True := by
  k_with "call ref" => (k_here; (show wpAny _ _ (call (Value.ref 660) [Value.ref _, Value.int _ _]) _ _ _); k_dflt (refine' TClaim.use (read_y _ _ _ _ _ _ _ _ _ _ _ _ _ _ _ _ _ (by with_reducible assumption) (by with_reducible assumption) (by with_reducible assumption) (by with_reducible assumption) ?kS ?kN) ?k1 ?k2 ?k3 ?k4 ?k5 ?k6 ?k7 ?k8 ?_; (case k1 => k_asm); (case k2 => k_asm); (case k3 => k_asm); (case k4 => k_asm); (case k5 => k_asm); (case k6 => first | exact rfl | assumption); (case k7 => ktr_room); (case k8 => ktr_units); (case kS => assumption); (case kN => exact ⟨by assumption, by assumption, by assumption, by assumption, by assumption⟩); k_whole); (intro _ _ _ _ _ _); (try k_sweep))
  trivial
local macro_rules | `(tactic| k_all) => `(tactic| exact allNe_ne (by with_reducible assumption))
def PCl (w : World) (mean : ExcName → Option Value) (mg mb : Str → Option Value) (news : List (Addr × Obj)) (LX : Addr) (vt : Tok) : Prop :=
  ∀ (dp un : Nat) (gd : Option (List Code)) (cn : Str) (cs : Scope) (a : Addr) (ccd : Value) (cl : List (Str × Addr)) (outer : List Env) (A₀ : Around) (base h₀ : Heap) (L : Addr) (m : Str → Option Value) (s : Shared) (Q E : Value → Shared → Prop),
    Below A₀ base outer h₀ → Fr h₀ L s.heap m → (hd.heap_39 w.params).In h₀ → News h₀ L s.heap news → Top hd.view_39 LS mean mg mb h₀ → cs.kind = .function →
    dp + 3 < recursionLimit → un + 8 * 3 < cLine → (∀ (h' : Heap) (tk' : Nat), Fr h₀ L h' m → News h₀ L h' news → Q (.str (Str.ofString "") vt) { s with heap := h', toks := tk' }) →
    wpAny (model PG w) (ktrTop dp un gd cn cs L a ccd cl outer) (getAttr (.ref LX) (Str.ofString "punctuation_chars") true) Q E s
section
theorem lines_25 : True := by
  k_with "getAttr ref" => (k_here; (with_reducible show wpAny _ _ (getAttr (Value.ref _) (PySem.Str.ofString "punctuation_chars") _) _ _ _); k_dflt (refine' get_prop ?k1 ?k2 ?k3 ?k4 ?k5 ?k6 ?k7 ?k8 ?k9 ?_; (case k1 => k_asm); (case k2 => k_asm); (case k3 => k_inst); (case k4 => k_is); (case k5 => k_is); (case k6 => k_is); (case k7 => k_is); (case k8 => k_is); (case k9 => k_is); k_whole; walk_at "MY enter"))
  trivial
local macro_rules | `(tactic| k_mem) => `(tactic| assumption)
theorem pc_C (w : World) (mean : ExcName → Option Value) (mg mb : Str → Option Value) (news : List (Addr × Obj)) (S LX LD PB FS : Addr) (k v : Nat → Tok) (stv tkv : Value) (m1 : (LX, instObj 849 LD) ∈ news) (m2 : (LD, lexD w S PB FS k v stv tkv) ∈ news) :
    PCl w mean mg mb news LX (v 8) := by
  unfold PCl
  intros
  rename_i hret
  walk_at "getAttr ref"
  k_steps
  exact hret _ _ (by k_asm) (by assumption)
end
theorem lines_26 : True := by
  k_with_none
  k_with "call builtin:issubclass" => (k_here; (with_reducible show wpAny _ _ (call (Value.builtin "issubclass") [Value.type "str", Value.ref _]) _ _ _); k_dflt (refine' issub_K ?k1 ?k2 ?_; (case k1 => k_asm); (case k2 => k_mem); k_whole); intro _)
  k_with "call ref" => (k_here; (with_reducible show wpAny _ _ (call (Value.ref 117) [Value.str _ _]) _ _ _); k_dflt (refine' TClaim.use (fspath_C _ _ _ _ _ _ _) ?k1 ?k2 ?k3 ?k4 ?k5 ?k6 ?k7 ?k8 ?_; (case k1 => k_asm); (case k2 => k_asm); (case k3 => k_asm); (case k4 => k_asm); (case k5 => k_asm); (case k6 => first | exact rfl | assumption); (case k7 => ktr_room); (case k8 => ktr_units); k_whole); (intro _ _ _ _); (try k_sweep))
  k_with "call ref" => ((k_here; (with_reducible show wpAny _ _ (call (Value.ref 145) [Value.str _ _]) _ _ _); k_dflt (refine' TClaim.use (splitroot_C _ _ _ _ _ _ _ (by kt_len)) ?k1 ?k2 ?k3 ?k4 ?k5 ?k6 ?k7 ?k8 ?_; (case k1 => k_asm); (case k2 => k_asm); (case k3 => k_asm); (case k4 => k_asm); (case k5 => k_asm); (case k6 => first | exact rfl | assumption); (case k7 => ktr_room); (case k8 => ktr_units); k_whole); (intro _ _ _ _ _ _ _ _ e1 e2 _ _ l1 _); (try k_lt l1); (subst e1 e2); (try k_sweep)); (try (revert l1; intro _)))
  k_with "call builtin:str.split" => ((k_here; (with_reducible show wpAny _ _ (call (Value.builtin "str.split") [Value.str _ _, Value.str (PySem.Str.ofString "/") _]) _ _ _); (refine KSpl.split1 (by k_asm) (by k_asm) (by decide) ?_ (by rw [PySem.sizeLine_eq]; omega)); (intro _ _ _ _ _ _ _ _ l1); (try k_lt l1)); (try (revert l1; intro _)))
  k_with "call builtin:list.append" => (k_here; (with_reducible show wpAny _ _ (call (Value.builtin _) [Value.ref _, _]) _ _ _); k_dflt (refine' append_L ?k1 ?k2 ?k3 ?z ?_; (case k1 => k_asm); (case k2 => k_asm); (case k3 => k_upd); (case z => with_reducible assumption); k_whole); intro _ _ _; (try k_sweep))
  k_with "call builtin:list.pop" => (k_here; k_dflt (refine' pop_snoc ?k1 ?k2 ?k3 ?z ?_; (case k1 => k_asm); (case k2 => k_asm); (case k3 => k_upd); (case z => with_reducible assumption); k_whole); intro _ _ _; (try k_sweep))
  k_with "subscriptTail Name UnaryOp ref int" => (k_here; (with_reducible show wpAny _ _ (subscriptTail _ _ (Value.ref _) (Value.int _ _)) _ _ _); (with_unfolding_all refine' last_snoc ?k1 ?k2 ?_ ?k3 ?k4; (case k1 => k_asm); (case k2 => k_mem); (case k3 => with_unfolding_all rfl); (case k4 => (intro _; with_unfolding_all rfl)); k_whole))
  k_with "truthy ref" => (k_here; (with_reducible show wpAny _ _ (truthy (Value.ref _)) _ _ _); k_dflt (refine' truthy_strs ?k1 ?k2 ?k3 ?k4 ?g0 ?g1; (case k1 => k_asm); (case k2 => k_mem); (case k3 => with_reducible assumption); (case k4 => with_reducible assumption)); (case' g0 => (intro e1 _; subst e1)); (case' g1 => (intro _ _ _ _ e1 _ _; subst e1)))
  k_with "truthy ref" => (k_here; (with_reducible show wpAny _ _ (truthy (Value.ref _)) _ _ _); k_dflt (refine' truthy_snoc ?k1 ?k2 ?k4 ?_; (case k1 => k_asm); (case k2 => k_mem); (case k4 => with_reducible assumption); k_whole))
  k_with "TPost" => (dsimp only [TPost])
  k_with "execs cons" => (k_here; (try k_gentoks); (with_reducible refine wpAny_execs_cons ?_); (try dsimp only); (try k_fold))
  k_with "truthy str" => (k_here; (with_reducible show wpAny _ _ (PySem.truthy (Value.str _ _)) _ _ _); (refine' KXt.truthy_pos ?kxta ?kxtb ?kxtc ?_; (case kxta => with_reducible assumption); (case kxtb => with_reducible assumption); (case kxtc => exact Nat.le_of_ble_eq_true rfl)); intro _)
  k_with "call builtin:str.join" => (k_here; (with_reducible show wpAny _ _ (call (Value.builtin "str.join") [Value.str _ _, Value.ref _]) _ _ _); k_dflt (refine' join_listC ?k1 ?k2 ?k3 ?k4 ?_; (case k1 => exact News.isList (by k_asm) (by k_mem)); (case k2 => with_reducible assumption); (case k3 => decide); (case k4 => with_reducible assumption); k_whole); intro _ _)
  k_with "binaryOp Add str str" => (k_here; (with_reducible show wpAny _ _ (binaryOp Operator.Add (Value.str _ _) (Value.str _ _)) _ _ _); (refine' PyProof.Rows.add_str ?_ ?z; (case z => with_reducible assumption)); intro _ _)
  k_with "MY enter" => (refine' code_def ?k1 ?k2 ?k3 ?k4 ?k5 ?kA ?kF ?kK ?k6 ?k7 ?k8 ?k9 ?kB ?_ ?c2 ?c3 ?c4 ?c5; (case kA => exact rfl); (case kF => exact rfl); (case kK => first | assumption | exact rfl); (case k1 => k_asm); (case k2 => k_asm); (case k3 => k_asm); (case k4 => k_asm); (case k5 => k_asm); (case k6 => k_is); (case k7 => k_is); (case k8 => ktr_room); (case k9 => first | exact BindsTo.of_eq rfl | exact binds_K (by k_in) rfl (by k_is) rfl rfl rfl); (case c5 => decide); (case kB => exact locs rfl); (case c2 => exact rfl); (case c3 => exact rfl); (case c4 => exact rfl); k_whole; intro _ _ _ _ _ _ _ _ _; (try dsimp only); (try k_fold))
  k_with "compareOp Is" => (k_here; (with_reducible show wpAny _ _ (compareOp CmpOp.Is (Value.str _ _) (Value.ref _)) _ _ _); refine wpAny_is_other (by rfl) (by intro x; cases x) ?_)
  k_with "exec For Name Name cons nil" => (k_here; (with_unfolding_all refine' For_turns (by k_asm) ?_; k_whole))
  k_with "exec While" => (k_here; (with_reducible show wpAny _ _ (exec (Stmt.While (Expr.Constant _ _ _) _ _ _) _) _ _ _); refine held ?_)
  k_with "call ref" => (k_here; (show wpAny _ _ (call (Value.ref 660) [Value.ref _, Value.int _ _]) _ _ _); k_dflt (refine' TClaim.use (read_y _ _ _ _ _ _ _ _ _ _ _ _ _ _ _ _ _ (by with_reducible assumption) (by with_reducible assumption) (by with_reducible assumption) (by with_reducible assumption) ?kS ?kN) ?k1 ?k2 ?k3 ?k4 ?k5 ?k6 ?k7 ?k8 ?_; (case k1 => k_asm); (case k2 => k_asm); (case k3 => k_asm); (case k4 => k_asm); (case k5 => k_asm); (case k6 => first | exact rfl | assumption); (case k7 => ktr_room); (case k8 => ktr_units); (case kS => assumption); (case kN => exact ⟨by assumption, by assumption, by assumption, by assumption, by assumption⟩); k_whole); (intro _ _ _ _ _ _); (try k_sweep))
  trivial
theorem PCl.use {w : World} {mean : ExcName → Option Value} {mg mb : Str → Option Value} {news : List (Addr × Obj)} {LX : Addr} {vt : Tok} (C : PCl w mean mg mb news LX vt)
    {dp un : Nat} {gd : Option (List Code)} {cn : Str} {cs : Scope} {a : Addr} {ccd : Value} {cl : List (Str × Addr)} {outer : List Env} {A₀ : Around} {base h₀ : Heap} {L : Addr} {m : Str → Option Value} {s : Shared} {Q E : Value → Shared → Prop}
    (B : Below A₀ base outer h₀) (F : Fr h₀ L s.heap m) (X : (hd.heap_39 w.params).In h₀) (N : News h₀ L s.heap news) (T : Top hd.view_39 LS mean mg mb h₀) (hk : cs.kind = .function)
    (hd : dp + 3 < recursionLimit) (hu : un + 8 * 3 < cLine) (hp : ∀ (h' : Heap) (tk' : Nat), Fr h₀ L h' m → News h₀ L h' news → Q (.str (Str.ofString "") vt) { s with heap := h', toks := tk' }) :
    wpAny (model PG w) (ktrTop dp un gd cn cs L a ccd cl outer) (getAttr (.ref LX) (Str.ofString "punctuation_chars") true) Q E s := C _ _ _ _ _ _ _ _ _ _ _ _ _ _ _ _ _ B F X N T hk hd hu hp
theorem lines_27 : True := by
  k_with "getAttr ref" => (k_here; (with_reducible show wpAny _ _ (getAttr (Value.ref _) (PySem.Str.ofString "punctuation_chars") _) _ _ _); k_dflt (refine' PCl.use (pc_C _ _ _ _ _ _ _ _ _ _ _ _ _ _ ?m1 ?m2) ?k1 ?k2 ?k3 ?k4 ?k5 ?k6 ?k7 ?k8 ?_; (case k1 => k_asm); (case k2 => k_asm); (case k3 => k_asm); (case k4 => k_asm); (case k5 => k_asm); (case k6 => first | exact rfl | assumption); (case k7 => ktr_room); (case k8 => ktr_units); (case m1 => k_mem); (case m2 => k_mem); k_whole); (intro _ _ _ _); (try k_sweep))
  trivial
section
variable {prog : Program} {w : World} {A : Around} {E : Value → Shared → Prop} {Q : Flow → Shared → Prop} {s : Shared} {env : Env} {h₀ : Heap} {L : Addr}
theorem while_J {test : Expr} {body : List Stmt} {pos : Pos} {m : Str → Option Value} {news : List (Addr × Obj)} (J : Nat → (Str → Option Value) → List (Addr × Obj) → Prop) {n₀ : Nat}
    (F : Fr h₀ L s.heap m) (N : News h₀ L s.heap news) (hJ : J n₀ m news)
    (turn : ∀ n m₁ nw h tk, J n m₁ nw → Fr h₀ L h m₁ → News h₀ L h nw → wpAny (model prog w) A (isTrue test env (eval test env)) (fun b s₂ =>
        if b = true then wpAny (model prog w) A (execs body env) (TPost h₀ L { s with heap := h, toks := tk } [] (fun m' n' => ∃ k, k < n ∧ J k m' n') Q) E s₂ else Q .next s₂) E { s with heap := h, toks := tk })
    (hE : PassesOwn (model prog w) A env E := by passes_own) :
    wpAny (model prog w) A (exec (.While test body [] pos) env) Q E s := by
  refine While_inv2 J F N hJ (fun n m₁ nw h tk F₁ N₁ j => ?_) hE
  refine wpAny_mono (turn n m₁ nw h tk j F₁ N₁) (fun b s₂ p => ?_) fun _ _ x => x
  cases b with
  | false => simpa using p
  | true =>
    simp only [if_true] at p ⊢
    refine wpAny_mono p (fun f s₃ q => ?_) fun _ _ x => x
    have fin : TEnd h₀ L { s with heap := h, toks := tk } [] (fun m' n' => ∃ k, k < n ∧ J k m' n') s₃ → ∃ h' tk m₂ news₂ n', s₃ = { s with heap := h', toks := tk } ∧ Fr h₀ L h' m₂ ∧ News h₀ L h' news₂ ∧ n' < n ∧ J n' m₂ news₂ := by
      rintro ⟨⟨h', tk', m', n', e', F₂, N₂, off, k, hk, j⟩⟩
      exact ⟨h', tk', m', n', k, e', F₂, N₂, hk, j⟩
    cases f with
    | ret v => exact q
    | brk => exact q
    | next => exact fin q
    | cont => exact fin q
theorem while_Jm {test : Expr} {body : List Stmt} {pos : Pos} {m : Str → Option Value} {news : List (Addr × Obj)} (J : (Str → Option Value) → Nat → (Str → Option Value) → List (Addr × Obj) → Prop) {n₀ : Nat}
    (F : Fr h₀ L s.heap m) (N : News h₀ L s.heap news) (hJ : J m n₀ m news)
    (turn : ∀ n m₁ nw h tk, J m n m₁ nw → Fr h₀ L h m₁ → News h₀ L h nw → wpAny (model prog w) A (isTrue test env (eval test env)) (fun b s₂ =>
        if b = true then wpAny (model prog w) A (execs body env) (TPost h₀ L { s with heap := h, toks := tk } [] (fun m' n' => ∃ k, k < n ∧ J m k m' n') Q) E s₂ else Q .next s₂) E { s with heap := h, toks := tk })
    (hE : PassesOwn (model prog w) A env E := by passes_own) :
    wpAny (model prog w) A (exec (.While test body [] pos) env) Q E s := while_J (J m) F N hJ turn hE
theorem in_fact {X y : Str} {t u : Tok} {b : Bool} {Q : Value → Shared → Prop} (h : inS X y = b) (q : Q (.bool b) s) : wpAny (model prog w) A (compareOp .In (.str y u) (.str X t)) Q E s := PyProof.Rows.in_str (by rw [show (!(Builtin.Str.occurrences X y 0 X.length 1).isEmpty) = b from h]; exact q)
theorem eq_fact {a b : Str} {t u : Tok} {r : Bool} {Q : Value → Shared → Prop} (h : (a == b) = r) (q : Q (.bool r) s) : wpAny (model prog w) A (compareOp .Eq (.str a t) (.str b u)) Q E s := PyProof.Rows.eq_str (by rw [h]; exact q)
theorem notIn_fact {X y : Str} {t u : Tok} {b : Bool} {Q : Value → Shared → Prop} (h : inS X y = b) (q : Q (.bool (!b)) s) : wpAny (model prog w) A (compareOp .NotIn (.str y u) (.str X t)) Q E s := PyProof.Rows.notIn_str (by rw [show (!(Builtin.Str.occurrences X y 0 X.length 1).isEmpty) = b from h]; exact q)
end
theorem s_qa : inS (Str.ofString "'\"") (Str.ofString "a") = false := by decide +kernel
theorem s_q1 : inS (Str.ofString "'\"") (Str.ofString "'") = true := by decide +kernel
theorem s_q2 : inS (Str.ofString "'\"") (Str.ofString "\"") = true := by decide +kernel
theorem s_ea : inS (Str.ofString "\\") (Str.ofString "a") = false := by decide +kernel
theorem lines_28 : True := by
  k_with "compareOp In str str" => (k_here; first | refine in_fact (by with_reducible assumption) ?_ | refine in_fact s_qa ?_ | refine in_fact s_q1 ?_ | refine in_fact s_q2 ?_ | refine in_fact s_ea ?_)
  k_with "compareOp NotIn str str" => (k_here; refine notIn_fact (by with_reducible assumption) ?_)
  k_with "compareOp Eq str str" => (k_here; refine eq_fact (by with_reducible assumption) ?_)
  k_with "inplaceOp Add str str" => (k_here; (refine PyProof.Rows.iadd_str ?_ ?z; (case z => with_reducible assumption)); intro _ _; (try k_sweep))
  k_with "call ref" => (k_here; (show wpAny _ _ (call (Value.ref 660) [Value.ref _, Value.int _ _]) _ _ _); k_dflt (refine' TClaim.use (read_end _ _ _ _ _ _ _ _ _ _ _ _ _ _ _ _ (by with_reducible assumption) (by with_reducible assumption) ?kS ?kN) ?k1 ?k2 ?k3 ?k4 ?k5 ?k6 ?k7 ?k8 ?_; (case k1 => k_asm); (case k2 => k_asm); (case k3 => k_asm); (case k4 => k_asm); (case k5 => k_asm); (case k6 => first | exact rfl | assumption); (case k7 => ktr_room); (case k8 => ktr_units); (case kS => assumption); (case kN => exact ⟨by assumption, by assumption, by assumption, by assumption, by assumption⟩); k_whole); (intro _ _ _ _ _); (try k_sweep))
  k_with "exec If" => refine wpAny_If ?_
  trivial
/-- what holds between the turns of read_token's loop -/
def RTJ (w : World) (news : List (Addr × Obj)) (S SD LX LD PB FS : Addr) (X : Str) (t u k v : Nat → Tok) (r : Option (List Nat)) (l' : List Nat) (m₀ : Str → Option Value) (n : Nat) (m : Str → Option Value) (nw : List (Addr × Obj)) : Prop :=
  ∃ (pre l tok : List Nat) (st : Nat) (q : Bool) (uu : Option Value) (up ts tt : Tok) (p : Int) (ST T : Str), X = mk (pre ++ l) ∧ n = l.length + 1 ∧ st < 4 ∧ (st = 0 → tok = [] ∧ q = false) ∧ tokF l st tok q = some (r, l') ∧ tok.length ≤ pre.length ∧ p = pre.length ∧ ST = stS st ∧ T = mk tok ∧
    m = mf2 (Str.ofString "nextchar") (Str.ofString "quoted") m₀ uu (some (.bool q)) ∧ nw = LED w S SD LX LD PB FS X p t u up k v (.str ST ts) (.str T tt) news
def RTpost (w : World) (news : List (Addr × Obj)) (S SD LX LD PB FS : Addr) (X : Str) (t u k v : Nat → Tok) (r : Option (List Nat)) (l' : List Nat) : (Value → Shared → Prop) → Heap → Addr → (Str → Option Value) → Shared → Prop := fun Q h₀ L m s =>
  ∀ (t1 up ts tt : Tok) (p : Int) (h' : Heap) (tk' : Nat), p + l'.length = X.length → Fr h₀ L h' m → News h₀ L h' (LED w S SD LX LD PB FS X p t u up k v (match r with | some _ => .str (Str.ofString " ") ts | none => .none) (.str (Str.ofString "") tt) news) →
    Q (match r with | some y => .str (mk y) t1 | none => .none) { s with heap := h', toks := tk' }
theorem mform1 {a b : Str} {M : Str → Option Value} {u v u' : Option Value} : (fun y => if y = a then u' else mf2 a b M u v y) = mf2 a b M u' v := by
  funext z
  by_cases h1 : z = a
  · subst h1; simp [mf2]
  · simp [mf2, h1]
theorem off_nil {l : List (Addr × Obj)} : ∀ p ∈ l, ∀ q ∈ ([] : List (Addr × Obj)), p.1 ≠ q.1 := fun _ _ _ h => nomatch h
theorem mstart {M : Str → Option Value} : M = mf2 (Str.ofString "nextchar") (Str.ofString "quoted") M (M (Str.ofString "nextchar")) (M (Str.ofString "quoted")) := by
  funext z
  by_cases h1 : z = Str.ofString "nextchar"
  · simp [mf2, h1]
  · by_cases h2 : z = Str.ofString "quoted"
    · by_cases h3 : Str.ofString "quoted" = Str.ofString "nextchar"
      · rw [h2]; simp [mf2, h3]
      · rw [h2]; simp [mf2, h3]
    · simp [mf2, h1, h2]
theorem rtj_end {w : World} {news : List (Addr × Obj)} {S SD LX LD PB FS : Addr} {X : Str} {t u k v : Nat → Tok} {r : Option (List Nat)} {l' : List Nat} {m₀ m' : Str → Option Value} {n : Nat} {pre l₂ tok tok' : List Nat} {c : Nat} {p : Int} {h₀ h' : Heap} {L : Addr} {s₁ : Shared} {tk : Nat} {st' : Nat} {q' : Bool} {uu : Option Value} {up ts tt : Tok} {ST' T' : Str}
    (hX2 : X = mk ((pre ++ [c]) ++ l₂)) (hn : n = (c :: l₂).length + 1) (htl : tok.length ≤ pre.length) (hp : p = pre.length) (hst : st' < 4) (hh0 : st' = 0 → tok' = [] ∧ q' = false) (htok : tokF l₂ st' tok' q' = some (r, l')) (hlen : tok'.length ≤ tok.length + 1) (hST : ST' = stS st') (hT : T' = mk tok')
    (F : Fr h₀ L h' m') (hm : m' = mf2 (Str.ofString "nextchar") (Str.ofString "quoted") m₀ uu (some (.bool q'))) (N : News h₀ L h' (LED w S SD LX LD PB FS X (p + 1) t u up k v (.str ST' ts) (.str T' tt) news)) :
    TEnd h₀ L s₁ [] (fun m' n' => ∃ k₁, k₁ < n ∧ RTJ w news S SD LX LD PB FS X t u k v r l' m₀ k₁ m' n') { s₁ with heap := h', toks := tk } := by
  refine tend (its := []) F N off_nil ⟨l₂.length + 1, by rw [hn, List.length_cons]; omega, pre ++ [c], l₂, tok', st', q', uu, up, ts, tt, p + 1, ST', T', hX2, rfl, hst, hh0, htok, ?_, ?_, hST, hT, hm, rfl⟩
  · rw [List.length_append]; exact Nat.le_trans hlen (Nat.add_le_add_right htl 1)
  · rw [hp, List.length_append]; rfl
theorem News.tl {h₀ h : Heap} {L : Addr} {a : Addr × Obj} {l : List (Addr × Obj)} (N : News h₀ L h (a :: l)) : News h₀ L h l := fun p hp => N p (.tail _ hp)
theorem lines_29 : True := by
  k_with "MY steps" => repeat' (first | (k_unfold; (try dsimp only)) | walk1 | (dsimp only; walk1) | (leave1; try dsimp only) | (k_end; wrow_close))
  trivial
theorem rt_C (w : World) (mean : ExcName → Option Value) (mg mb : Str → Option Value) (news : List (Addr × Obj)) (S SD LX LD PB FS : Addr) (pre₀ l₀ : List Nat) (t u : Nat → Tok) (up : Tok) (k v : Nat → Tok) (ts tt : Tok) (r : Option (List Nat)) (l' : List Nat) (hx : (mk (pre₀ ++ l₀)).length ≤ 100000) (hA : Apart S SD LX LD PB FS news) (hr : tokF l₀ 0 [] false = some (r, l')) :
    TClaim w mean mg mb (LED w S SD LX LD PB FS (mk (pre₀ ++ l₀)) pre₀.length t u up k v (.str (Str.ofString " ") ts) (.str (Str.ofString "") tt) news) 817 12 [.ref LX] (RTpost w news S SD LX LD PB FS (mk (pre₀ ++ l₀)) t u k v r l') := by
  generalize hX₀ : mk (pre₀ ++ l₀) = X at *
  obtain ⟨a1, a2, a3, a4, a5, a6, b1, b2, b3, b4, b5, b6⟩ := hA
  dsimp only [TClaim]
  intros
  rename_i hret
  refine wpAny_call ?_
  k_dflt (walk_at "MY enter")
  k_steps
  refine ⟨?_⟩
  rename_i F₀ N₀
  refine while_Jm (RTJ w news S SD LX LD PB FS X t u k v r l') F₀ N₀ (n₀ := l₀.length + 1) ?h0 ?turn ?pass
  case pass => passes_own
  case h0 => exact ⟨pre₀, l₀, [], 0, false, none, up, ts, tt, _, _, _, hX₀.symm, rfl, by decide, fun _ => ⟨rfl, rfl⟩, hr, Nat.zero_le _, rfl, rfl, mk_nil.symm, mstart, rfl⟩
  case turn =>
    rintro n m₁ nw h tk ⟨pre, l, tok, st, q, uu, up₁, ts₁, tt₁, p, ST, T, hX, hn, hst, h0, hr₁, htl, hp, hST, hT, rfl, rfl⟩ F N
    clear F₀ N₀
    have hXl : X.length = pre.length + l.length := by rw [hX, mk_length, List.length_append]
    have hp0 : 0 ≤ p := by omega
    have hTl : T.length = tok.length := by rw [hT, mk_length]
    cases l with
    | nil =>
      have hp1 : p = X.length := by rw [List.length_nil] at hXl; omega
      have hst0 : st = 0 := by
        unfold tokF at hr₁
        split at hr₁
        · assumption
        · exact nomatch hr₁
      subst hst0
      obtain ⟨rfl, rfl⟩ := h0 rfl
      obtain ⟨rfl, rfl⟩ : none = r ∧ [] = l' := by simpa [tokF] using hr₁
      obtain rfl : ST = Str.ofString " " := hST
      obtain rfl : T = Str.ofString "" := hT.trans mk_nil
      have hpe : (X.length : Int) = p + ([] : List Nat).length := by rw [hp1]; simp
      clear hX hXl hT hr₁ hTl
      refine (?_ : wpAny _ _ _ _ _ _)
      k_fold
      walk_at "MY steps"
      exact hret 0 _ 0 _ _ _ _ hpe.symm (by k_asm) (by assumption)
    | cons c l₂ =>
      rw [List.length_cons] at hXl
      have hp1 : p < X.length := by omega
      have hy : chAt X p = mk [c] := by rw [hX, hp]; exact chAt_mk pre l₂ c
      have hz : T.length + (mk [c]).length ≤ sizeLine := by rw [hT, mk_length, PySem.sizeLine_eq]; show _ + 1 ≤ _; omega
      have hX2 : X = mk ((pre ++ [c]) ++ l₂) := by rw [hX]; simp
      have hT2 : T ++ mk [c] = mk (tok ++ [c]) := by rw [hT, mk_append]
      have htl1 : tok.length ≤ tok.length + 1 := by omega
      have htl2 : (tok ++ [c]).length ≤ tok.length + 1 := by simp
      have htl3 : [c].length ≤ tok.length + 1 := by simp
      have hTn : 1 ≤ T.length → (T == Str.ofString "") = true → False := by
        intro h1 h2
        rw [eq_of_beq h2] at h1
        exact absurd h1 (by decide +kernel)
      have hpe : p + 1 + l₂.length = X.length := by rw [hp, hXl]; omega
      rcases (by omega : st = 0 ∨ st = 1 ∨ (st = 2 ∨ st = 3)) with rfl | rfl | hq
      · obtain ⟨rfl, rfl⟩ := h0 rfl
        obtain rfl : ST = Str.ofString " " := hST
        obtain rfl : T = Str.ofString "" := hT.trans mk_nil
        obtain ⟨ws, wc, qu, ⟨f1, f2, f3, f4, f5, f6, f7, f8⟩, g1, g2, g3, g4⟩ := step0 hr₁
        generalize hyc : mk [c] = y at *
        clear hT hT2 hz hTl hr₁ hTn hX hXl htl2
        refine (?_ : wpAny _ _ _ _ _ _)
        k_fold
        walk_at "MY steps"
        all_goals first
          | (have z := g1 (by assumption); exact rtj_end hX2 hn htl hp (by decide) (fun _ => ⟨rfl, rfl⟩) z htl1 rfl mk_nil.symm (by assumption) mform1 (by assumption))
          | (have z := g3 (by assumption) (g4 (by assumption)); exact rtj_end hX2 hn htl hp (by decide) (fun h => absurd h (by decide)) z htl3 rfl hyc.symm (by assumption) mform1 (by assumption))
          | (have z := g3 (by assumption) (by assumption); exact rtj_end hX2 hn htl hp (by decide) (fun h => absurd h (by decide)) z htl3 rfl hyc.symm (by assumption) mform1 (by assumption))
          | (have z := g2 (by assumption) (by assumption); exact rtj_end hX2 hn htl hp (by decide) (fun h => absurd h (by decide)) z.2 htl1 z.1 mk_nil.symm (by assumption) mform1 (by assumption))
      · obtain rfl : ST = Str.ofString "a" := hST
        obtain ⟨ws, wc, qu, ⟨f1, f2, f3, f4, f5, f6, f7, f8⟩, g1, g2, g3, g4⟩ := step1 hr₁
        generalize hyc : mk [c] = y at *
        have hqT : ws = true → (T.length : Int) = 0 → q = false → False := by
          intro h1 h2 h3
          have e : tok = [] := List.length_eq_zero_iff.mp (by omega)
          rw [(g1 h1).2.2 e] at h3
          cases h3
        clear hr₁ hX hXl htl3
        refine (?_ : wpAny _ _ _ _ _ _)
        k_fold
        walk_at "MY steps"
        all_goals first
          | (have z := hqT (by assumption) (by assumption) (by assumption); exact z.elim)
          | (have z : (T == Str.ofString "") = true := (by assumption); exact (hTn (by omega) z).elim)
          | (obtain ⟨rfl, rfl, -⟩ := g1 (by assumption); subst hT; exact hret _ _ _ _ _ _ _ hpe (by k_asm) (News.tl (by assumption)))
          | (have z := g3 (by assumption) (g4 (by assumption)); exact rtj_end hX2 hn htl hp (by decide) (fun h => absurd h (by decide)) z htl2 rfl hT2 (by assumption) mform1 (News.tl (by assumption)))
          | (have z := g3 (by assumption) (by assumption); exact rtj_end hX2 hn htl hp (by decide) (fun h => absurd h (by decide)) z htl2 rfl hT2 (by assumption) mform1 (News.tl (by assumption)))
          | (obtain ⟨st', hst', e1, e2⟩ := g2 (by assumption) (by assumption); exact rtj_end hX2 hn htl hp (by omega) (by intro h; omega) e2 htl1 e1 hT (by assumption) mform1 (News.tl (by assumption)))
      · obtain ⟨⟨f1, f2, f3, f6⟩, b, f9, g1, g2⟩ := stepq hq hr₁
        obtain ⟨q1, q2⟩ := stq_facts hq
        rw [← hST] at f9 q1 q2
        generalize hyc : mk [c] = y at *
        clear hr₁ hX hXl htl3
        refine (?_ : wpAny _ _ _ _ _ _)
        k_fold
        walk_at "MY steps"
        all_goals first
          | (have z := g1 (by assumption); exact rtj_end hX2 hn htl hp (by decide) (fun h => absurd h (by decide)) z htl1 rfl hT (by assumption) (mform2 (by decide +kernel)) (by assumption))
          | (have z := g2 (by assumption); exact rtj_end hX2 hn htl hp (by omega) (by intro h; omega) z htl2 hST hT2 (by assumption) (mform2 (by decide +kernel)) (by assumption))
end TK6_

section GT_
theorem lines_30 : True := by
  k_with_none
  k_with "call builtin:issubclass" => (k_here; (with_reducible show wpAny _ _ (call (Value.builtin "issubclass") [Value.type "str", Value.ref _]) _ _ _); k_dflt (refine' issub_K ?k1 ?k2 ?_; (case k1 => k_asm); (case k2 => k_mem); k_whole); intro _)
  k_with "call ref" => (k_here; (with_reducible show wpAny _ _ (call (Value.ref 117) [Value.str _ _]) _ _ _); k_dflt (refine' TClaim.use (fspath_C _ _ _ _ _ _ _) ?k1 ?k2 ?k3 ?k4 ?k5 ?k6 ?k7 ?k8 ?_; (case k1 => k_asm); (case k2 => k_asm); (case k3 => k_asm); (case k4 => k_asm); (case k5 => k_asm); (case k6 => first | exact rfl | assumption); (case k7 => ktr_room); (case k8 => ktr_units); k_whole); (intro _ _ _ _); (try k_sweep))
  k_with "call ref" => ((k_here; (with_reducible show wpAny _ _ (call (Value.ref 145) [Value.str _ _]) _ _ _); k_dflt (refine' TClaim.use (splitroot_C _ _ _ _ _ _ _ (by kt_len)) ?k1 ?k2 ?k3 ?k4 ?k5 ?k6 ?k7 ?k8 ?_; (case k1 => k_asm); (case k2 => k_asm); (case k3 => k_asm); (case k4 => k_asm); (case k5 => k_asm); (case k6 => first | exact rfl | assumption); (case k7 => ktr_room); (case k8 => ktr_units); k_whole); (intro _ _ _ _ _ _ _ _ e1 e2 _ _ l1 _); (try k_lt l1); (subst e1 e2); (try k_sweep)); (try (revert l1; intro _)))
  k_with "call builtin:str.split" => ((k_here; (with_reducible show wpAny _ _ (call (Value.builtin "str.split") [Value.str _ _, Value.str (PySem.Str.ofString "/") _]) _ _ _); (refine KSpl.split1 (by k_asm) (by k_asm) (by decide) ?_ (by rw [PySem.sizeLine_eq]; omega)); (intro _ _ _ _ _ _ _ _ l1); (try k_lt l1)); (try (revert l1; intro _)))
  k_with "call builtin:list.append" => (k_here; (with_reducible show wpAny _ _ (call (Value.builtin _) [Value.ref _, _]) _ _ _); k_dflt (refine' append_L ?k1 ?k2 ?k3 ?z ?_; (case k1 => k_asm); (case k2 => k_asm); (case k3 => k_upd); (case z => with_reducible assumption); k_whole); intro _ _ _; (try k_sweep))
  k_with "call builtin:list.pop" => (k_here; k_dflt (refine' pop_snoc ?k1 ?k2 ?k3 ?z ?_; (case k1 => k_asm); (case k2 => k_asm); (case k3 => k_upd); (case z => with_reducible assumption); k_whole); intro _ _ _; (try k_sweep))
  k_with "subscriptTail Name UnaryOp ref int" => (k_here; (with_reducible show wpAny _ _ (subscriptTail _ _ (Value.ref _) (Value.int _ _)) _ _ _); (with_unfolding_all refine' last_snoc ?k1 ?k2 ?_ ?k3 ?k4; (case k1 => k_asm); (case k2 => k_mem); (case k3 => with_unfolding_all rfl); (case k4 => (intro _; with_unfolding_all rfl)); k_whole))
  k_with "truthy ref" => (k_here; (with_reducible show wpAny _ _ (truthy (Value.ref _)) _ _ _); k_dflt (refine' truthy_strs ?k1 ?k2 ?k3 ?k4 ?g0 ?g1; (case k1 => k_asm); (case k2 => k_mem); (case k3 => with_reducible assumption); (case k4 => with_reducible assumption)); (case' g0 => (intro e1 _; subst e1)); (case' g1 => (intro _ _ _ _ e1 _ _; subst e1)))
  k_with "truthy ref" => (k_here; (with_reducible show wpAny _ _ (truthy (Value.ref _)) _ _ _); k_dflt (refine' truthy_snoc ?k1 ?k2 ?k4 ?_; (case k1 => k_asm); (case k2 => k_mem); (case k4 => with_reducible assumption); k_whole))
  k_with "TPost" => (dsimp only [TPost])
  trivial
theorem lines_31 : True := by
  k_with "truthy str" => (k_here; (with_reducible show wpAny _ _ (PySem.truthy (Value.str _ _)) _ _ _); (refine' KXt.truthy_pos ?kxta ?kxtb ?kxtc ?_; (case kxta => with_reducible assumption); (case kxtb => with_reducible assumption); (case kxtc => exact Nat.le_of_ble_eq_true rfl)); intro _)
  k_with "call builtin:str.join" => (k_here; (with_reducible show wpAny _ _ (call (Value.builtin "str.join") [Value.str _ _, Value.ref _]) _ _ _); k_dflt (refine' join_listC ?k1 ?k2 ?k3 ?k4 ?_; (case k1 => exact News.isList (by k_asm) (by k_mem)); (case k2 => with_reducible assumption); (case k3 => decide); (case k4 => with_reducible assumption); k_whole); intro _ _)
  k_with "binaryOp Add str str" => (k_here; (with_reducible show wpAny _ _ (binaryOp Operator.Add (Value.str _ _) (Value.str _ _)) _ _ _); (refine' PyProof.Rows.add_str ?_ ?z; (case z => with_reducible assumption)); intro _ _)
  k_with "MY enter" => (refine' code_def ?k1 ?k2 ?k3 ?k4 ?k5 ?kA ?kF ?kK ?k6 ?k7 ?k8 ?k9 ?kB ?_ ?c2 ?c3 ?c4 ?c5; (case kA => exact rfl); (case kF => exact rfl); (case kK => first | assumption | exact rfl); (case k1 => k_asm); (case k2 => k_asm); (case k3 => k_asm); (case k4 => k_asm); (case k5 => k_asm); (case k6 => k_is); (case k7 => k_is); (case k8 => ktr_room); (case k9 => first | exact BindsTo.of_eq rfl | exact binds_K (by k_in) rfl (by k_is) rfl rfl rfl); (case c5 => decide); (case kB => exact locs rfl); (case c2 => exact rfl); (case c3 => exact rfl); (case c4 => exact rfl); k_whole; intro _ _ _ _ _ _ _ _ _; (try dsimp only); (try k_fold))
  k_with "compareOp Is" => (k_here; (with_reducible show wpAny _ _ (compareOp CmpOp.Is (Value.str _ _) (Value.ref _)) _ _ _); refine wpAny_is_other (by rfl) (by intro x; cases x) ?_)
  k_with "exec For Name Name cons nil" => (k_here; (with_unfolding_all refine' For_turns (by k_asm) ?_; k_whole))
  trivial
local macro_rules | `(tactic| k_all) => `(tactic| exact allNe_ne (by with_reducible assumption))
theorem lines_32 : True := by
  k_with "exec If" => refine wpAny_If ?_
  k_with "truthy ref" => (k_here; k_dflt (refine' dq_truthy ?k1 ?k2 ?_; (case k1 => k_asm); (case k2 => k_mem); k_whole); intro _)
  k_with "call ref" => (k_here; (show wpAny _ _ (call (Value.ref 817) [Value.ref _]) _ _ _); k_dflt (refine' TClaim.use (rt_C _ _ _ _ _ _ _ _ _ _ _ _ _ _ _ _ _ _ _ _ _ _ (by with_reducible assumption) (by with_reducible assumption) (by with_reducible assumption)) ?k1 ?k2 ?k3 ?k4 ?k5 ?k6 ?k7 ?k8 ?_; (case k1 => k_asm); (case k2 => k_asm); (case k3 => k_asm); (case k4 => k_asm); (case k5 => k_asm); (case k6 => first | exact rfl | assumption); (case k7 => ktr_room); (case k8 => ktr_units); k_whole); (unfold RTpost); (intro _ _ _ _ _ _ _ _ _ _); (try dsimp only); (try k_sweep))
  k_with "MY steps" => repeat' (first | (k_unfold; (try dsimp only)) | walk1 | (dsimp only; walk1) | (leave1; try dsimp only) | (k_end; wrow_close))
  trivial
theorem gt_C (w : World) (mean : ExcName → Option Value) (mg mb : Str → Option Value) (news : List (Addr × Obj)) (S SD LX LD PB FS : Addr) (pre₀ l₀ : List Nat) (t u : Nat → Tok) (up : Tok) (k v : Nat → Tok) (ts tt : Tok) (y : List Nat) (l' : List Nat) (hx : (mk (pre₀ ++ l₀)).length ≤ 100000) (hA : Apart S SD LX LD PB FS news) (hr : tokF l₀ 0 [] false = some (some y, l')) :
    TClaim w mean mg mb (LED w S SD LX LD PB FS (mk (pre₀ ++ l₀)) pre₀.length t u up k v (.str (Str.ofString " ") ts) (.str (Str.ofString "") tt) news) 810 14 [.ref LX] (RTpost w news S SD LX LD PB FS (mk (pre₀ ++ l₀)) t u k v (some y) l') := by
  dsimp only [TClaim]
  intros
  rename_i hret
  refine wpAny_call ?_
  k_dflt (walk_at "MY enter")
  walk_at "MY steps"
  exact hret _ _ _ _ _ _ _ (by assumption) (by k_asm) (by assumption)
theorem gt_N (w : World) (mean : ExcName → Option Value) (mg mb : Str → Option Value) (news : List (Addr × Obj)) (S SD LX LD PB FS : Addr) (pre₀ l₀ : List Nat) (t u : Nat → Tok) (up : Tok) (k v : Nat → Tok) (ts tt : Tok) (l' : List Nat) (hx : (mk (pre₀ ++ l₀)).length ≤ 100000) (hA : Apart S SD LX LD PB FS news) (hr : tokF l₀ 0 [] false = some (none, l')) :
    TClaim w mean mg mb (LED w S SD LX LD PB FS (mk (pre₀ ++ l₀)) pre₀.length t u up k v (.str (Str.ofString " ") ts) (.str (Str.ofString "") tt) news) 810 14 [.ref LX] (RTpost w news S SD LX LD PB FS (mk (pre₀ ++ l₀)) t u k v none l') := by
  dsimp only [TClaim]
  intros
  rename_i hret
  refine wpAny_call ?_
  k_dflt (walk_at "MY enter")
  walk_at "MY steps"
  exact hret 0 _ 0 _ _ _ _ (by assumption) (by k_asm) (by assumption)
theorem lines_33 : True := by
  k_with "call ref" => (k_here; (show wpAny _ _ (call (Value.ref 810) [Value.ref _]) _ _ _); k_dflt (first | (refine' TClaim.use (gt_C _ _ _ _ _ _ _ _ _ _ _ _ _ _ _ _ _ _ _ _ _ _ (by with_reducible assumption) (by with_reducible assumption) (by with_reducible assumption)) ?k1 ?k2 ?k3 ?k4 ?k5 ?k6 ?k7 ?k8 ?_; (case k1 => k_asm); (case k2 => k_asm); (case k3 => k_asm); (case k4 => k_asm); (case k5 => k_asm); (case k6 => first | exact rfl | assumption); (case k7 => ktr_room); (case k8 => ktr_units); k_whole) | (refine' TClaim.use (gt_N _ _ _ _ _ _ _ _ _ _ _ _ _ _ _ _ _ _ _ _ _ (by with_reducible assumption) (by with_reducible assumption) (by with_reducible assumption)) ?k1 ?k2 ?k3 ?k4 ?k5 ?k6 ?k7 ?k8 ?_; (case k1 => k_asm); (case k2 => k_asm); (case k3 => k_asm); (case k4 => k_asm); (case k5 => k_asm); (case k6 => first | exact rfl | assumption); (case k7 => ktr_room); (case k8 => ktr_units); k_whole)); (unfold RTpost); (intro _ _ _ _ _ _ _ _ _ _); (try dsimp only); (try k_sweep))
  trivial
theorem nx_C (w : World) (mean : ExcName → Option Value) (mg mb : Str → Option Value) (news : List (Addr × Obj)) (S SD LX LD PB FS : Addr) (pre₀ l₀ : List Nat) (t u : Nat → Tok) (up : Tok) (k v : Nat → Tok) (ts tt : Tok) (y : List Nat) (l' : List Nat) (hx : (mk (pre₀ ++ l₀)).length ≤ 100000) (hA : Apart S SD LX LD PB FS news) (hr : tokF l₀ 0 [] false = some (some y, l')) :
    TClaim w mean mg mb (LED w S SD LX LD PB FS (mk (pre₀ ++ l₀)) pre₀.length t u up k v (.str (Str.ofString " ") ts) (.str (Str.ofString "") tt) news) 846 16 [.ref LX] (RTpost w news S SD LX LD PB FS (mk (pre₀ ++ l₀)) t u k v (some y) l') := by
  dsimp only [TClaim]
  intros
  rename_i hret
  refine wpAny_call ?_
  k_dflt (walk_at "MY enter")
  walk_at "MY steps"
  exact hret _ _ _ _ _ _ _ (by assumption) (by k_asm) (by assumption)
/-- a call that ends in StopIteration -/
def NClaim (w : World) (mean : ExcName → Option Value) (mg mb : Str → Option Value) (news : List (Addr × Obj)) (f : Addr) (room : Nat) (vs : List Value) (after : List (Addr × Obj) → Prop) : Prop :=
  ∀ (dp un : Nat) (gd : Option (List Code)) (cn : Str) (cs : Scope) (a : Addr) (ccd : Value) (cl : List (Str × Addr)) (outer : List Env) (A₀ : Around) (base h₀ : Heap) (L : Addr) (m : Str → Option Value) (s : Shared) (Q E : Value → Shared → Prop),
    Below A₀ base outer h₀ → Fr h₀ L s.heap m → (hd.heap_39 w.params).In h₀ → News h₀ L s.heap news → Top hd.view_39 LS mean mg mb h₀ → cs.kind = .function →
    dp + room < recursionLimit → un + 8 * room < cLine →
    (∀ (e t : Addr) (G h' : Heap) (tk' : Nat) (nw : List (Addr × Obj)), after nw → RaisedS base G (envX cn cs L a ccd cl :: outer) e (.type "StopIteration") t [] nw h' → G.UpToSlots h' → Fr h₀ L G m → E (.ref e) { s with heap := h', toks := tk' }) →
    wpAny (model PG w) (ktrTop dp un gd cn cs L a ccd cl outer) (call (.ref f) vs) Q E s
theorem lines_34 : True := by
  k_with "leaving ref" => (k_here; (refine' leave_raiseS ?k1 ?k0 ?k2 ?k3 ?_; (case k0 => first | assumption | exact Heap.MadeExc.of (by assumption)); (case k2 => assumption); (case k1 => assumption); (case k3 => k_asm); k_whole; intro _ _ S' R' U'; (try dsimp only at S' R' U' ⊢)))
  trivial
theorem nx_N (w : World) (mean : ExcName → Option Value) (mg mb : Str → Option Value) (news : List (Addr × Obj)) (S SD LX LD PB FS : Addr) (pre₀ l₀ : List Nat) (t u : Nat → Tok) (up : Tok) (k v : Nat → Tok) (ts tt : Tok) (l' : List Nat) (hx : (mk (pre₀ ++ l₀)).length ≤ 100000) (hA : Apart S SD LX LD PB FS news) (hr : tokF l₀ 0 [] false = some (none, l')) :
    NClaim w mean mg mb (LED w S SD LX LD PB FS (mk (pre₀ ++ l₀)) pre₀.length t u up k v (.str (Str.ofString " ") ts) (.str (Str.ofString "") tt) news) 846 16 [.ref LX] (fun nw => ∀ q ∈ news, q ∈ nw) := by
  unfold NClaim
  intros
  rename_i hret
  refine wpAny_call ?_
  k_dflt (walk_at "MY enter")
  walk_at "MY steps"
  refine hret _ _ _ _ _ _ ?a (by assumption) (by assumption) (by assumption)
  intro q hq
  exact .tail _ (.tail _ (.tail _ (.tail _ (.tail _ (.tail _ hq)))))
end GT_

section LL_
theorem lines_35 : True := by
  k_with_none
  k_with "call builtin:issubclass" => (k_here; (with_reducible show wpAny _ _ (call (Value.builtin "issubclass") [Value.type "str", Value.ref _]) _ _ _); k_dflt (refine' issub_K ?k1 ?k2 ?_; (case k1 => k_asm); (case k2 => k_mem); k_whole); intro _)
  k_with "call ref" => (k_here; (with_reducible show wpAny _ _ (call (Value.ref 117) [Value.str _ _]) _ _ _); k_dflt (refine' TClaim.use (fspath_C _ _ _ _ _ _ _) ?k1 ?k2 ?k3 ?k4 ?k5 ?k6 ?k7 ?k8 ?_; (case k1 => k_asm); (case k2 => k_asm); (case k3 => k_asm); (case k4 => k_asm); (case k5 => k_asm); (case k6 => first | exact rfl | assumption); (case k7 => ktr_room); (case k8 => ktr_units); k_whole); (intro _ _ _ _); (try k_sweep))
  k_with "call ref" => ((k_here; (with_reducible show wpAny _ _ (call (Value.ref 145) [Value.str _ _]) _ _ _); k_dflt (refine' TClaim.use (splitroot_C _ _ _ _ _ _ _ (by kt_len)) ?k1 ?k2 ?k3 ?k4 ?k5 ?k6 ?k7 ?k8 ?_; (case k1 => k_asm); (case k2 => k_asm); (case k3 => k_asm); (case k4 => k_asm); (case k5 => k_asm); (case k6 => first | exact rfl | assumption); (case k7 => ktr_room); (case k8 => ktr_units); k_whole); (intro _ _ _ _ _ _ _ _ e1 e2 _ _ l1 _); (try k_lt l1); (subst e1 e2); (try k_sweep)); (try (revert l1; intro _)))
  k_with "call builtin:str.split" => ((k_here; (with_reducible show wpAny _ _ (call (Value.builtin "str.split") [Value.str _ _, Value.str (PySem.Str.ofString "/") _]) _ _ _); (refine KSpl.split1 (by k_asm) (by k_asm) (by decide) ?_ (by rw [PySem.sizeLine_eq]; omega)); (intro _ _ _ _ _ _ _ _ l1); (try k_lt l1)); (try (revert l1; intro _)))
  k_with "call builtin:list.append" => (k_here; (with_reducible show wpAny _ _ (call (Value.builtin _) [Value.ref _, _]) _ _ _); k_dflt (refine' append_L ?k1 ?k2 ?k3 ?z ?_; (case k1 => k_asm); (case k2 => k_asm); (case k3 => k_upd); (case z => with_reducible assumption); k_whole); intro _ _ _; (try k_sweep))
  k_with "call builtin:list.pop" => (k_here; k_dflt (refine' pop_snoc ?k1 ?k2 ?k3 ?z ?_; (case k1 => k_asm); (case k2 => k_asm); (case k3 => k_upd); (case z => with_reducible assumption); k_whole); intro _ _ _; (try k_sweep))
  k_with "subscriptTail Name UnaryOp ref int" => (k_here; (with_reducible show wpAny _ _ (subscriptTail _ _ (Value.ref _) (Value.int _ _)) _ _ _); (with_unfolding_all refine' last_snoc ?k1 ?k2 ?_ ?k3 ?k4; (case k1 => k_asm); (case k2 => k_mem); (case k3 => with_unfolding_all rfl); (case k4 => (intro _; with_unfolding_all rfl)); k_whole))
  k_with "truthy ref" => (k_here; (with_reducible show wpAny _ _ (truthy (Value.ref _)) _ _ _); k_dflt (refine' truthy_strs ?k1 ?k2 ?k3 ?k4 ?g0 ?g1; (case k1 => k_asm); (case k2 => k_mem); (case k3 => with_reducible assumption); (case k4 => with_reducible assumption)); (case' g0 => (intro e1 _; subst e1)); (case' g1 => (intro _ _ _ _ e1 _ _; subst e1)))
  k_with "truthy ref" => (k_here; (with_reducible show wpAny _ _ (truthy (Value.ref _)) _ _ _); k_dflt (refine' truthy_snoc ?k1 ?k2 ?k4 ?_; (case k1 => k_asm); (case k2 => k_mem); (case k4 => with_reducible assumption); k_whole))
  k_with "TPost" => (dsimp only [TPost])
  trivial
theorem lines_36 : True := by
  k_with "truthy str" => (k_here; (with_reducible show wpAny _ _ (PySem.truthy (Value.str _ _)) _ _ _); (refine' KXt.truthy_pos ?kxta ?kxtb ?kxtc ?_; (case kxta => with_reducible assumption); (case kxtb => with_reducible assumption); (case kxtc => exact Nat.le_of_ble_eq_true rfl)); intro _)
  k_with "call builtin:str.join" => (k_here; (with_reducible show wpAny _ _ (call (Value.builtin "str.join") [Value.str _ _, Value.ref _]) _ _ _); k_dflt (refine' join_listC ?k1 ?k2 ?k3 ?k4 ?_; (case k1 => exact News.isList (by k_asm) (by k_mem)); (case k2 => with_reducible assumption); (case k3 => decide); (case k4 => with_reducible assumption); k_whole); intro _ _)
  k_with "binaryOp Add str str" => (k_here; (with_reducible show wpAny _ _ (binaryOp Operator.Add (Value.str _ _) (Value.str _ _)) _ _ _); (refine' PyProof.Rows.add_str ?_ ?z; (case z => with_reducible assumption)); intro _ _)
  k_with "MY enter" => (refine' code_def ?k1 ?k2 ?k3 ?k4 ?k5 ?kA ?kF ?kK ?k6 ?k7 ?k8 ?k9 ?kB ?_ ?c2 ?c3 ?c4 ?c5; (case kA => exact rfl); (case kF => exact rfl); (case kK => first | assumption | exact rfl); (case k1 => k_asm); (case k2 => k_asm); (case k3 => k_asm); (case k4 => k_asm); (case k5 => k_asm); (case k6 => k_is); (case k7 => k_is); (case k8 => ktr_room); (case k9 => first | exact BindsTo.of_eq rfl | exact binds_K (by k_in) rfl (by k_is) rfl rfl rfl); (case c5 => decide); (case kB => exact locs rfl); (case c2 => exact rfl); (case c3 => exact rfl); (case c4 => exact rfl); k_whole; intro _ _ _ _ _ _ _ _ _; (try dsimp only); (try k_fold))
  k_with "compareOp Is" => (k_here; (with_reducible show wpAny _ _ (compareOp CmpOp.Is (Value.str _ _) (Value.ref _)) _ _ _); refine wpAny_is_other (by rfl) (by intro x; cases x) ?_)
  k_with "exec For Name Name cons nil" => (k_here; (with_unfolding_all refine' For_turns (by k_asm) ?_; k_whole))
  trivial
theorem it_C (w : World) (mean : ExcName → Option Value) (mg mb : Str → Option Value) (news : List (Addr × Obj)) (LX : Addr) :
    TClaim w mean mg mb news 839 2 [.ref LX] (fun Q h₀ L m s => ∀ (h' : Heap) (tk' : Nat), Fr h₀ L h' m → News h₀ L h' news → Q (.ref LX) { s with heap := h', toks := tk' }) := by
  dsimp only [TClaim]
  intros
  rename_i hret
  refine wpAny_call ?_
  k_dflt cell_enter
  k_steps
  exact hret _ _ (by k_asm) (by assumption)
/-- the words that the lexer reads off -/
inductive Toks : List Nat → List (List Nat) → Prop where
  | nil {l l' : List Nat} : tokF l 0 [] false = some (none, l') → Toks l []
  | cons {l l' y : List Nat} {ws : List (List Nat)} : tokF l 0 [] false = some (some y, l') → Toks l' ws → Toks l (y :: ws)
theorem tokF_tail : ∀ (l : List Nat) (st : Nat) (tok : List Nat) (q : Bool) (r : Option (List Nat)) (l' : List Nat), tokF l st tok q = some (r, l') → ∃ pre, l = pre ++ l'
  | [], st, tok, q, r, l', h => by
    unfold tokF at h
    split at h
    · simp only [Option.some.injEq, Prod.mk.injEq] at h; exact ⟨[], by rw [← h.2]; rfl⟩
    · exact nomatch h
  | c :: l, st, tok, q, r, l', h => by
    have key : ∀ {st tok q}, tokF l st tok q = some (r, l') → ∃ pre, c :: l = pre ++ l' := fun h => by
      obtain ⟨pre, e⟩ := tokF_tail l _ _ _ r l' h
      exact ⟨c :: pre, by rw [e]; rfl⟩
    match st, h with
    | 0, h =>
      simp only [tokF] at h
      repeat' split at h
      all_goals first | exact key h | exact absurd h (by simp)
    | 1, h =>
      simp only [tokF] at h
      repeat' split at h
      all_goals first | exact key h | (simp only [Option.some.injEq, Prod.mk.injEq] at h; exact ⟨[c], by rw [← h.2]; rfl⟩) | exact absurd h (by simp)
    | 2, h =>
      simp only [tokF] at h
      repeat' split at h
      all_goals first | exact key h | exact absurd h (by simp)
    | n + 3, h =>
      simp only [tokF] at h
      repeat' split at h
      all_goals first | exact key h | exact absurd h (by simp)
theorem after_stop {A₀ : Around} {base h₀ G h' : Heap} {outer : List Env} {name : Str} {scope : Scope} {L a e t : Addr} {cd cls : Value} {m : Str → Option Value} {vs : List Value} {news : List (Addr × Obj)}
    (R : RaisedS base G (envOf name scope L a cd :: outer) e cls t vs news h') (F : Fr h₀ L G m) (K : Below A₀ base outer h₀) (U : G.UpToSlots h') :
    ∃ g', KtsTurn (outer.filterMap (·.frame)) h₀ g' ∧ Fr g' L h' m ∧ Below A₀ base outer g' ∧ News g' L h' news := by
  obtain ⟨⟨B, hB, hBG, hl, hfl, hnew⟩, htup⟩ := R
  have hL : B.get? L = none := by
    obtain ⟨_, ⟨L', _, hf, hn', _⟩, _⟩ := hfl.2.2.1
    obtain rfl : L = L' := Option.some.inj hf
    exact hn'
  obtain ⟨g', T, F', K'⟩ := kts_ground K F hBG hfl.1 U
  exact ⟨g', T, F', K', fun q hq => ⟨hfl.1 _ _ (hl q hq).1, (fun z => by have := (hl q hq).1; rw [z, hL] at this; cases this), T.none_ _ (kts_none F.keep (hl q hq).2.1)⟩⟩
section
open PySem.Calls PySem.Spec
variable {w : World} {mean : ExcName → Option Value} {mg mb : Str → Option Value} {news : List (Addr × Obj)} {S SD LX LD PB FS Sx : Addr} {X : Str} {t u k v : Nat → Tok}
  {dp un : Nat} {gd : Option (List Code)} {cn : Str} {cs : Scope} {a : Addr} {ccd : Value} {outer : List Env} {A₀ : Around} {base h₀ : Heap} {L : Addr} {m : Str → Option Value} {s : Shared}
theorem cls_next : findIn (hd.heap_39 w.params) (.ref 849) "__next__" = some (some (.ref 846)) := by kernel_rfl
theorem cls_iter : findIn (hd.heap_39 w.params) (.ref 849) "__iter__" = some (some (.ref 839)) := by kernel_rfl
theorem fn_next : isFn (hd.heap_39 w.params) (.ref 846) = true := by kernel_rfl
theorem fn_iter : isFn (hd.heap_39 w.params) (.ref 839) = true := by kernel_rfl
theorem led_perm {h : Heap} {p : Int} {up : Tok} {stv tkv : Value} {o : Obj} (N : News h₀ L h (LED w S SD LX LD PB FS X p t u up k v stv tkv ((Sx, o) :: news))) {o' : Obj} {h' : Heap} (hs : Heap.SameBut Sx h h') (ho : h'.get? Sx = some o')
    (h1 : ∀ q ∈ LED w S SD LX LD PB FS X p t u up k v stv tkv [], q.1 ≠ Sx) (h2 : ∀ q ∈ news, q.1 ≠ Sx) : News h₀ L h' (LED w S SD LX LD PB FS X p t u up k v stv tkv ((Sx, o') :: news)) :=
  news_set (pre := LED w S SD LX LD PB FS X p t u up k v stv tkv []) N h1 h2 hs ho
theorem loop_C {R : Result → Shared → Prop} (B : Below A₀ base outer h₀) (X₀ : (hd.heap_39 w.params).In h₀) (T : Top hd.view_39 LS mean mg mb h₀) (hk : cs.kind = .function) (hdp : dp + 20 < recursionLimit) (hu : un + 8 * 20 + 3 < cLine)
    (hx : X.length ≤ 100000) (hA : Apart S SD LX LD PB FS news) (hSx : (S ≠ Sx ∧ SD ≠ Sx ∧ LX ≠ Sx ∧ LD ≠ Sx ∧ PB ≠ Sx ∧ FS ≠ Sx) ∧ ∀ q ∈ news, q.1 ≠ Sx)
    {l : List Nat} {ws : List (List Nat)} (hw : Toks l ws) : ∀ (pre : List Nat) (vs : List Value) (n : Nat) (xs : List Str) (h : Heap) (tk : Nat) (up ts tt : Tok) (p : Int), X = mk (pre ++ l) → p = pre.length → StrsAre vs xs → vs.length + ws.length ≤ 1000 → Fr h₀ L h m →
      News h₀ L h (LED w S SD LX LD PB FS X p t u up k v (.str (Str.ofString " ") ts) (.str (Str.ofString "") tt) ((Sx, listOf vs.toArray n) :: news)) →
      (∀ (vs' : List Value) (n' : Nat) (e tt' : Addr) (G h' : Heap) (tk' : Nat) (nw : List (Addr × Obj)), StrsAre vs' (xs ++ ws.map mk) → (∀ q ∈ (Sx, listOf vs'.toArray n') :: news, q ∈ nw) → RaisedS base G (envX cn cs L a ccd [] :: outer) e (.type "StopIteration") tt' [] nw h' → G.UpToSlots h' → Fr h₀ L G m →
        R (.ok (.ret .none)) { s with heap := h', toks := tk' }) →
      codeAny (model PG w) (ktrTop dp un gd cn cs L a ccd [] outer) (.builtin "list.extend.loop" ⟨[.ref Sx, .ref LX, .none], []⟩) R { s with heap := h, toks := tk } := by
  obtain ⟨a1, a2, a3, a4, a5, a6, b1, b2, b3, b4, b5, b6⟩ := hA
  obtain ⟨⟨s1, s2, s3, s4, s5, s6⟩, s7⟩ := hSx
  have hA' : ∀ o, Apart S SD LX LD PB FS ((Sx, o) :: news) := fun o => ⟨a1, a2, a3, a4, a5, ⟨Ne.symm s2, a6⟩, b1, b2, b3, b4, b5, ⟨Ne.symm s4, b6⟩⟩
  induction hw with
  | nil hr =>
    intro pre vs n xs h tk up ts tt p hX hp hvs hlen F N hR
    refine codeAny_builtin PySem.F.entry_extend_loop ?_
    rw [Around.under_plainId PySem.F.plain_extend_loop _]
    show wpAny _ _ (pyNext (.ref LX) >>= _) _ _ _
    subst hX hp
    refine wpAny_bind (owit_next (K := hd.heap_39 w.params) (C := 849) (f := 846) F X₀ (InstAt.of_news N (.tail _ (.tail _ (.head _))) (.tail _ (.tail _ (.tail _ (.head _))))) cls_next fn_next ?_)
    refine nx_N w mean mg mb _ S SD LX LD PB FS pre _ t u up k v ts tt _ hx (hA' _) hr dp (un + 1) gd cn cs a ccd [] outer A₀ base h₀ L m { s with heap := h, toks := tk } _ _ B F X₀ N T hk (by omega) (by omega) ?_
    intro e t' G h' tk' nw hnw RR U FG
    have hf := RR.1
    obtain ⟨B', _, _, _, hfl, _⟩ := hf
    obtain ⟨ob, hob, hobc⟩ := hfl.there
    show wpAny _ _ (isInstance (.ref e) (.type "StopIteration")) _ _ _
    refine wpAny_isInstance (T := "StopIteration") (b := true) ⟨ob, hob, hobc⟩ (by rw [isSubtype_type]; kernel_rfl) ?_
    show (if true = true then _ else _)
    rw [if_pos rfl]
    exact wpAny_pure (hR vs n e t' G h' tk' nw (by simpa using hvs) hnw RR U FG)
  | cons hr hw ih =>
    rename_i l l' y ws
    intro pre vs n xs h tk up ts tt p hX hp hvs hlen F N hR
    refine codeAny_builtin PySem.F.entry_extend_loop ?_
    rw [Around.under_plainId PySem.F.plain_extend_loop _]
    show wpAny _ _ (pyNext (.ref LX) >>= _) _ _ _
    subst hX hp
    refine wpAny_bind (owit_next (K := hd.heap_39 w.params) (C := 849) (f := 846) F X₀ (InstAt.of_news N (.tail _ (.tail _ (.head _))) (.tail _ (.tail _ (.tail _ (.head _))))) cls_next fn_next ?_)
    refine nx_C w mean mg mb _ S SD LX LD PB FS pre _ t u up k v ts tt _ _ hx (hA' _) hr dp (un + 1) gd cn cs a ccd [] outer A₀ base h₀ L m { s with heap := h, toks := tk } _ _ B F X₀ N T hk (by omega) (by omega) ?_
    unfold RTpost
    intro t1 up' ts' tt' p' h' tk' hp' F' N'
    have hS' : h'.get? Sx = some (listOf vs.toArray n) := (N' _ (.tail _ (.tail _ (.tail _ (.tail _ (.tail _ (.tail _ (.head _)))))))).1
    obtain ⟨pre', e⟩ := tokF_tail _ _ _ _ _ _ hr
    rw [List.length_cons] at hlen
    show wpAny _ _ (updateSeq Sx (·.push (Value.str (mk y) t1)) >>= _) _ _ _
    have hs : Heap.SameBut Sx h' (h'.update Sx (Obj.mapSeq (·.push (Value.str (mk y) t1)))) := Heap.SameBut.update ..
    obtain ⟨n2, ho⟩ : ∃ n2, (h'.update Sx (Obj.mapSeq (·.push (Value.str (mk y) t1)))).get? Sx = some (listOf (vs ++ [Value.str (mk y) t1]).toArray n2) := by
      have q1 := Heap.get?_update_self (Obj.mapSeq (·.push (Value.str (mk y) t1))) hS' rfl
      have q2 : vs.toArray.push (Value.str (mk y) t1) = (vs ++ [Value.str (mk y) t1]).toArray := List.push_toArray ..
      rw [← q2]
      exact ⟨_, q1⟩
    have h1 : ∀ q ∈ LED w S SD LX LD PB FS (mk (pre ++ l)) p' t u up' k v (.str (Str.ofString " ") ts') (.str (Str.ofString "") tt') [], q.1 ≠ Sx := by
      intro q hq
      simp only [List.mem_cons, List.not_mem_nil, or_false] at hq
      rcases hq with rfl | rfl | rfl | rfl | rfl | rfl
      · exact s1
      · exact s2
      · exact s3
      · exact s4
      · exact s5
      · exact s6
    have hz1 : vs.toArray.size ≤ sizeLine := by rw [List.size_toArray, PySem.sizeLine_eq]; omega
    have hz2 : (vs.toArray.push (Value.str (mk y) t1)).size ≤ sizeLine + 1 := by rw [Array.size_push, List.size_toArray, PySem.sizeLine_eq]; omega
    have z := N' (Sx, listOf vs.toArray n) (.tail _ (.tail _ (.tail _ (.tail _ (.tail _ (.tail _ (.head _)))))))
    refine wpAny_bind (wpAny_updateSeq hS' rfl (wpAny_pure ⟨plainId_quiet PySem.F.plain_extend_loop _, ih (pre ++ pre') (vs ++ [Value.str (mk y) t1]) n2 (xs ++ [mk y]) _ _ up' ts' tt' p' ?_ ?_ (kct_snoc hvs) ?_ (F'.change hs z.2.1 z.2.2) (led_perm N' hs ho h1 s7) ?_⟩) hz1 hz2)
    · rw [e]; simp
    · rw [e] at hp'
      rw [mk_length] at hp'
      simp only [List.length_append] at hp' ⊢
      omega
    · simp only [List.length_append, List.length_cons, List.length_nil]; omega
    · intro vs' n' e' t' G h'' tk'' nw hv hnw RR U FG
      refine hR vs' n' e' t' G h'' tk'' nw ?_ hnw RR U FG
      simpa using hv
end
end LL_

section L2_
theorem lines_37 : True := by
  k_with_none
  k_with "call builtin:issubclass" => (k_here; (with_reducible show wpAny _ _ (call (Value.builtin "issubclass") [Value.type "str", Value.ref _]) _ _ _); k_dflt (refine' issub_K ?k1 ?k2 ?_; (case k1 => k_asm); (case k2 => k_mem); k_whole); intro _)
  k_with "call ref" => (k_here; (with_reducible show wpAny _ _ (call (Value.ref 117) [Value.str _ _]) _ _ _); k_dflt (refine' TClaim.use (fspath_C _ _ _ _ _ _ _) ?k1 ?k2 ?k3 ?k4 ?k5 ?k6 ?k7 ?k8 ?_; (case k1 => k_asm); (case k2 => k_asm); (case k3 => k_asm); (case k4 => k_asm); (case k5 => k_asm); (case k6 => first | exact rfl | assumption); (case k7 => ktr_room); (case k8 => ktr_units); k_whole); (intro _ _ _ _); (try k_sweep))
  k_with "call ref" => ((k_here; (with_reducible show wpAny _ _ (call (Value.ref 145) [Value.str _ _]) _ _ _); k_dflt (refine' TClaim.use (splitroot_C _ _ _ _ _ _ _ (by kt_len)) ?k1 ?k2 ?k3 ?k4 ?k5 ?k6 ?k7 ?k8 ?_; (case k1 => k_asm); (case k2 => k_asm); (case k3 => k_asm); (case k4 => k_asm); (case k5 => k_asm); (case k6 => first | exact rfl | assumption); (case k7 => ktr_room); (case k8 => ktr_units); k_whole); (intro _ _ _ _ _ _ _ _ e1 e2 _ _ l1 _); (try k_lt l1); (subst e1 e2); (try k_sweep)); (try (revert l1; intro _)))
  k_with "call builtin:str.split" => ((k_here; (with_reducible show wpAny _ _ (call (Value.builtin "str.split") [Value.str _ _, Value.str (PySem.Str.ofString "/") _]) _ _ _); (refine KSpl.split1 (by k_asm) (by k_asm) (by decide) ?_ (by rw [PySem.sizeLine_eq]; omega)); (intro _ _ _ _ _ _ _ _ l1); (try k_lt l1)); (try (revert l1; intro _)))
  k_with "call builtin:list.append" => (k_here; (with_reducible show wpAny _ _ (call (Value.builtin _) [Value.ref _, _]) _ _ _); k_dflt (refine' append_L ?k1 ?k2 ?k3 ?z ?_; (case k1 => k_asm); (case k2 => k_asm); (case k3 => k_upd); (case z => with_reducible assumption); k_whole); intro _ _ _; (try k_sweep))
  k_with "call builtin:list.pop" => (k_here; k_dflt (refine' pop_snoc ?k1 ?k2 ?k3 ?z ?_; (case k1 => k_asm); (case k2 => k_asm); (case k3 => k_upd); (case z => with_reducible assumption); k_whole); intro _ _ _; (try k_sweep))
  k_with "subscriptTail Name UnaryOp ref int" => (k_here; (with_reducible show wpAny _ _ (subscriptTail _ _ (Value.ref _) (Value.int _ _)) _ _ _); (with_unfolding_all refine' last_snoc ?k1 ?k2 ?_ ?k3 ?k4; (case k1 => k_asm); (case k2 => k_mem); (case k3 => with_unfolding_all rfl); (case k4 => (intro _; with_unfolding_all rfl)); k_whole))
  k_with "truthy ref" => (k_here; (with_reducible show wpAny _ _ (truthy (Value.ref _)) _ _ _); k_dflt (refine' truthy_strs ?k1 ?k2 ?k3 ?k4 ?g0 ?g1; (case k1 => k_asm); (case k2 => k_mem); (case k3 => with_reducible assumption); (case k4 => with_reducible assumption)); (case' g0 => (intro e1 _; subst e1)); (case' g1 => (intro _ _ _ _ e1 _ _; subst e1)))
  k_with "truthy ref" => (k_here; (with_reducible show wpAny _ _ (truthy (Value.ref _)) _ _ _); k_dflt (refine' truthy_snoc ?k1 ?k2 ?k4 ?_; (case k1 => k_asm); (case k2 => k_mem); (case k4 => with_reducible assumption); k_whole))
  k_with "TPost" => (dsimp only [TPost])
  trivial
theorem lines_38 : True := by
  k_with "truthy str" => (k_here; (with_reducible show wpAny _ _ (PySem.truthy (Value.str _ _)) _ _ _); (refine' KXt.truthy_pos ?kxta ?kxtb ?kxtc ?_; (case kxta => with_reducible assumption); (case kxtb => with_reducible assumption); (case kxtc => exact Nat.le_of_ble_eq_true rfl)); intro _)
  k_with "call builtin:str.join" => (k_here; (with_reducible show wpAny _ _ (call (Value.builtin "str.join") [Value.str _ _, Value.ref _]) _ _ _); k_dflt (refine' join_listC ?k1 ?k2 ?k3 ?k4 ?_; (case k1 => exact News.isList (by k_asm) (by k_mem)); (case k2 => with_reducible assumption); (case k3 => decide); (case k4 => with_reducible assumption); k_whole); intro _ _)
  k_with "binaryOp Add str str" => (k_here; (with_reducible show wpAny _ _ (binaryOp Operator.Add (Value.str _ _) (Value.str _ _)) _ _ _); (refine' PyProof.Rows.add_str ?_ ?z; (case z => with_reducible assumption)); intro _ _)
  k_with "MY enter" => (refine' code_def ?k1 ?k2 ?k3 ?k4 ?k5 ?kA ?kF ?kK ?k6 ?k7 ?k8 ?k9 ?kB ?_ ?c2 ?c3 ?c4 ?c5; (case kA => exact rfl); (case kF => exact rfl); (case kK => first | assumption | exact rfl); (case k1 => k_asm); (case k2 => k_asm); (case k3 => k_asm); (case k4 => k_asm); (case k5 => k_asm); (case k6 => k_is); (case k7 => k_is); (case k8 => ktr_room); (case k9 => first | exact BindsTo.of_eq rfl | exact binds_K (by k_in) rfl (by k_is) rfl rfl rfl); (case c5 => decide); (case kB => exact locs rfl); (case c2 => exact rfl); (case c3 => exact rfl); (case c4 => exact rfl); k_whole; intro _ _ _ _ _ _ _ _ _; (try dsimp only); (try k_fold))
  k_with "compareOp Is" => (k_here; (with_reducible show wpAny _ _ (compareOp CmpOp.Is (Value.str _ _) (Value.ref _)) _ _ _); refine wpAny_is_other (by rfl) (by intro x; cases x) ?_)
  k_with "exec For Name Name cons nil" => (k_here; (with_unfolding_all refine' For_turns (by k_asm) ?_; k_whole))
  trivial
section
open PySem.Calls PySem.Spec
variable {w : World} {mean : ExcName → Option Value} {mg mb : Str → Option Value} {news : List (Addr × Obj)} {S SD LX LD PB FS : Addr} {X : Str} {t u k v : Nat → Tok}
  {dp un : Nat} {gd : Option (List Code)} {name : Str} {cs : Scope} {a : Addr} {ccd : Value} {outer : List Env} {A₀ : Around} {base h₀ : Heap} {L : Addr} {m : Str → Option Value} {s : Shared} {Q E : Value → Shared → Prop}
theorem cls_nolen : findIn (hd.heap_39 w.params) (.ref 849) "__len__" = some none := by kernel_rfl
theorem cls_nohint : findIn (hd.heap_39 w.params) (.ref 849) "__length_hint__" = some none := by kernel_rfl
theorem hint_lex {A : Around} {ox : Obj} {od : Option Obj} {Q : Bool → Shared → Prop} {E : Value → Shared → Prop} {s : Shared} (X : (hd.heap_39 w.params).In s.heap) (I : InstAt s.heap LX ox 849 od) (hq : Q true s) :
    wpAny (model PG w) A (Builtin.List.listLengthHint (.ref LX)) Q E s := by
  unfold Builtin.List.listLengthHint
  refine wpAny_bind ?_
  unfold specialOf
  refine wpAny_bind (I.type.here ((looks_findIn X cls_nolen).here ?_))
  show wpAny _ _ (specialOf (.ref LX) "__length_hint__" >>= _) _ _ _
  refine wpAny_bind ?_
  unfold specialOf
  refine wpAny_bind (I.type.here ((looks_findIn X cls_nohint).here ?_))
  exact wpAny_pure hq
theorem led_move {h : Heap} {p : Int} {up : Tok} {stv tkv : Value} {x : Addr × Obj} (N : News h₀ L h (x :: LED w S SD LX LD PB FS X p t u up k v stv tkv news)) : News h₀ L h (LED w S SD LX LD PB FS X p t u up k v stv tkv (x :: news)) := by
  intro q hq
  refine N q ?_
  simp only [List.mem_cons] at hq ⊢
  rcases hq with h | h | h | h | h | h | h | h
  · exact .inr (.inl h)
  · exact .inr (.inr (.inl h))
  · exact .inr (.inr (.inr (.inl h)))
  · exact .inr (.inr (.inr (.inr (.inl h))))
  · exact .inr (.inr (.inr (.inr (.inr (.inl h)))))
  · exact .inr (.inr (.inr (.inr (.inr (.inr (.inl h))))))
  · exact .inl h
  · exact .inr (.inr (.inr (.inr (.inr (.inr (.inr h))))))
theorem list_lex {l : List Nat} {ws : List (List Nat)} {up ts tt : Tok} (hw : Toks l ws) (B : Below A₀ base outer h₀) (X₀ : (hd.heap_39 w.params).In h₀) (T : Top hd.view_39 LS mean mg mb h₀) (hk : cs.kind = .function) (hdp : dp + 20 < recursionLimit) (hu : un + 8 * 20 + 12 < cLine)
    (hX : X = mk l) (hx : X.length ≤ 100000) (hA : Apart S SD LX LD PB FS news) (hl : ws.length ≤ 1000) (F : Fr h₀ L s.heap m)
    (N : News h₀ L s.heap (LED w S SD LX LD PB FS X 0 t u up k v (.str (Str.ofString " ") ts) (.str (Str.ofString "") tt) news))
    (hQ : ∀ (Sx : Addr) (vs : List Value) (n : Nat) (h' : Heap) (tk : Nat) (g' : Heap), StrsAre vs (ws.map mk) → KtsTurn (outer.filterMap (·.frame)) h₀ g' → Fr g' L h' m → Below A₀ base outer g' → News g' L h' ((Sx, listOf vs.toArray n) :: news) → (∀ q ∈ news, q.1 < Sx) → Q (.ref Sx) { s with heap := h', toks := tk }) :
    wpAny (model PG w) (ktrTop dp un gd name cs L a ccd [] outer) (call (.type "list") [.ref LX]) Q E s := by
  refine callType_codes (Q₁ := fun obj s₁ => obj = .ref s.heap.objs.size ∧ s₁ = { s with heap := s.heap.push { cls := .type "list", data := .seq #[] } }) PySem.F.called_list (PySem.F.typeCall_list_1 _) PySem.F.entry_list_init
    (code_list_new _ ⟨rfl, rfl⟩) fun obj s₁ h₁ => ?_
  obtain ⟨rfl, rfl⟩ := h₁
  have hS : (s.heap.push { cls := .type "list", data := .seq #[] }).get? s.heap.objs.size = some { cls := .type "list", data := .seq #[] } := Heap.get?_push_size _ rfl
  have lt : ∀ q ∈ LED w S SD LX LD PB FS X 0 t u up k v (.str (Str.ofString " ") ts) (.str (Str.ofString "") tt) news, q.1 < s.heap.objs.size := fun q hq => Heap.lt_size (N q hq).1
  have N₁ := News.push F N { cls := .type "list", data := .seq #[] } rfl
  have F₁ := F.push { cls := .type "list", data := .seq #[] }
  generalize hSx : s.heap.objs.size = Sx at *
  refine ⟨⟨_, hS, rfl⟩, PySem.F.args_list_init_2 _ _, ?_⟩
  have n1 : @LT.lt Nat _ S Sx := lt _ (.head _)
  have n2 : @LT.lt Nat _ SD Sx := lt _ (.tail _ (.head _))
  have n3 : @LT.lt Nat _ LX Sx := lt _ (.tail _ (.tail _ (.head _)))
  have n4 : @LT.lt Nat _ LD Sx := lt _ (.tail _ (.tail _ (.tail _ (.head _))))
  have n5 : @LT.lt Nat _ PB Sx := lt _ (.tail _ (.tail _ (.tail _ (.tail _ (.head _)))))
  have n6 : @LT.lt Nat _ FS Sx := lt _ (.tail _ (.tail _ (.tail _ (.tail _ (.tail _ (.head _))))))
  have n7 : ∀ q ∈ news, q.1 < Sx := fun q hq => lt _ (.tail _ (.tail _ (.tail _ (.tail _ (.tail _ (.tail _ hq))))))
  have hne : ∀ q ∈ LED w S SD LX LD PB FS X 0 t u up k v (.str (Str.ofString " ") ts) (.str (Str.ofString "") tt) news, q.1 ≠ Sx := fun q hq => Nat.ne_of_lt (lt q hq)
  show wpAny _ _ (do let old ← Builtin.List.listItems (.ref Sx); Builtin.List.listUpdate (.ref Sx) (fun _ => #[]); letGo old.toList.reverse; Builtin.List.listExtendWith (.ref Sx) (.ref LX) .none) _ _ _
  refine wpAny_bind ?_
  unfold Builtin.List.listItems
  refine wpAny_bind (wpAny_seqItems hS rfl (wpAny_pure ?_))
  show wpAny _ _ (updateSeq Sx (fun _ => #[]) >>= fun _ => letGo (#[] : Array Value).toList.reverse >>= fun _ => Builtin.List.listExtendWith (.ref Sx) (.ref LX) .none) _ _ _
  refine wpAny_bind (wpAny_updateSeq hS rfl ?_)
  have hS₂ := Heap.get?_update_self (Obj.mapSeq (fun _ => (#[] : Array Value))) hS rfl
  refine wpAny_bind (wpAny_letGo ?_)
  have hSo : Heap.SameBut Sx (s.heap.push { cls := .type "list", data := .seq #[] }) ((s.heap.push { cls := .type "list", data := .seq #[] }).update Sx (Obj.mapSeq (fun _ => (#[] : Array Value)))) := Heap.SameBut.update ..
  have hS₃ : ((s.heap.push { cls := .type "list", data := .seq #[] }).update Sx (Obj.mapSeq (fun _ => (#[] : Array Value)))).get? Sx = some (listOf ([] : List Value).toArray 0) := hS₂
  have z := N₁ _ (.head _)
  have h1' : ∀ q ∈ LED w S SD LX LD PB FS X 0 t u up k v (.str (Str.ofString " ") ts) (.str (Str.ofString "") tt) [], q.1 ≠ Sx := by
    intro q hq
    simp only [List.mem_cons, List.not_mem_nil, or_false] at hq
    rcases hq with rfl | rfl | rfl | rfl | rfl | rfl
    · exact Nat.ne_of_lt n1
    · exact Nat.ne_of_lt n2
    · exact Nat.ne_of_lt n3
    · exact Nat.ne_of_lt n4
    · exact Nat.ne_of_lt n5
    · exact Nat.ne_of_lt n6
  have n8 : ∀ q ∈ news, q.1 ≠ Sx := fun q hq => Nat.ne_of_lt (n7 q hq)
  have N₂ := led_perm (led_move N₁) hSo hS₃ h1' n8
  have F₂ := F₁.change hSo z.2.1 z.2.2
  generalize (s.heap.push { cls := .type "list", data := .seq #[] }).update Sx (Obj.mapSeq (fun _ => (#[] : Array Value))) = H₂ at *
  clear hS hS₂ N₁ F₁ hSo lt hne
  have I₂ : InstAt H₂ LX _ 849 _ := InstAt.of_news N₂ (.tail _ (.tail _ (.head _))) (.tail _ (.tail _ (.tail _ (.head _))))
  unfold Builtin.List.listExtendWith
  refine wpAny_bind (I₂.type.here ?_)
  have e1 : Builtin.List.listSameRef (.ref Sx) (.ref LX) = false := by simp [Builtin.List.listSameRef]; exact Nat.ne_of_gt n3
  have e2 : (Value.ref 849 == Value.type "list") = false := rfl
  have e3 : (Value.ref 849 == Value.type "tuple") = false := rfl
  simp only [e1, e2, e3, Bool.or_false, Bool.false_eq_true, if_false]
  refine wpAny_bind (owit_iter (K := hd.heap_39 w.params) (C := 849) (f := 839) F₂ X₀ I₂ cls_iter fn_iter ?_)
  refine it_C w mean mg mb _ LX dp (un + 2) gd name cs a ccd [] outer A₀ base h₀ L m _ _ _ B F₂ X₀ N₂ T hk (by omega) (by omega) ?_
  intro H₃ tk₃ F₃ N₃
  have I₃ : InstAt H₃ LX _ 849 _ := InstAt.of_news N₃ (.tail _ (.tail _ (.head _))) (.tail _ (.tail _ (.tail _ (.head _))))
  refine owit_it (K := hd.heap_39 w.params) (C := 849) F₃ X₀ I₃ cls_next ?_
  refine wpAny_bind (wpAny_holding (hint_lex (X₀.keeps F₃.keep) I₃ ?_))
  have hA' := hA
  have fin : ∀ (H : Heap) (tk n : Nat), Fr h₀ L H m → News h₀ L H (LED w S SD LX LD PB FS X 0 t u up k v (.str (Str.ofString " ") ts) (.str (Str.ofString "") tt) ((Sx, listOf ([] : List Value).toArray n) :: news)) →
      codeAny (model PG w) (ktrTop dp (un + 1) gd name cs L a ccd [] outer) (.builtin "list.extend.loop" ⟨[.ref Sx, .ref LX, .none], []⟩) (wants (fun r s₂ => r = Value.none ∧ Q (.ref Sx) s₂) E) { s with heap := H, toks := tk } := by
    intro H tk n FH NH
    refine loop_C (s := s) B X₀ T hk hdp (by omega) hx hA ⟨⟨Nat.ne_of_lt n1, Nat.ne_of_lt n2, Nat.ne_of_lt n3, Nat.ne_of_lt n4, Nat.ne_of_lt n5, Nat.ne_of_lt n6⟩, n8⟩ hw [] [] n [] H tk up ts tt 0 hX rfl .nil (by simpa using hl) FH NH ?_
    intro vs n' e tt' G h' tk' nw hvs hnw RR U FG
    obtain ⟨g', TT, F', K', N'⟩ := after_stop (name := name) (scope := cs) RR FG B U
    exact ⟨rfl, hQ Sx vs n' h' tk' g' (by simpa using hvs) TT F' K' (fun q hq => N' q (hnw q hq)) n7⟩
  refine wpAny_ite_split (fun _ => ?_) (fun _ => wpAny_pure ⟨plainId_quiet PySem.F.plain_extend_loop _, fin H₃ tk₃ 0 F₃ N₃⟩)
  refine wpAny_bind (wpAny_rule ?_)
  refine wpAny_bind ?_
  show wpAny _ _ (updateSeq Sx (·.push .none) >>= fun _ => updateSeq Sx (·.pop)) _ _ _
  have y := N₃ (Sx, listOf ([] : List Value).toArray 0) (.tail _ (.tail _ (.tail _ (.tail _ (.tail _ (.tail _ (.head _)))))))
  refine wpAny_bind (wpAny_updateSeq y.1 rfl ?_)
  have hT₂ := Heap.get?_update_self (Obj.mapSeq (·.push Value.none)) y.1 rfl
  have so₁ : Heap.SameBut Sx H₃ (H₃.update Sx (Obj.mapSeq (·.push Value.none))) := Heap.SameBut.update ..
  refine wpAny_updateSeq (hz := by seq_fits) hT₂ rfl ?_
  have hT₃ := Heap.get?_update_self (Obj.mapSeq (·.pop)) hT₂ rfl
  have so₂ : Heap.SameBut Sx (H₃.update Sx (Obj.mapSeq (·.push Value.none))) ((H₃.update Sx (Obj.mapSeq (·.push Value.none))).update Sx (Obj.mapSeq (·.pop))) := Heap.SameBut.update ..
  refine wpAny_pure ⟨plainId_quiet PySem.F.plain_extend_loop _, fin _ _ 2 ((F₃.change so₁ y.2.1 y.2.2).change so₂ y.2.1 y.2.2) ?_⟩
  exact led_perm (led_perm N₃ so₁ hT₂ h1' n8) so₂ hT₃ h1' n8
end
end L2_

section SP3_
theorem lines_39 : True := by
  k_with_none
  k_with "call builtin:issubclass" => (k_here; (with_reducible show wpAny _ _ (call (Value.builtin "issubclass") [Value.type "str", Value.ref _]) _ _ _); k_dflt (refine' issub_K ?k1 ?k2 ?_; (case k1 => k_asm); (case k2 => k_mem); k_whole); intro _)
  k_with "call ref" => (k_here; (with_reducible show wpAny _ _ (call (Value.ref 117) [Value.str _ _]) _ _ _); k_dflt (refine' TClaim.use (fspath_C _ _ _ _ _ _ _) ?k1 ?k2 ?k3 ?k4 ?k5 ?k6 ?k7 ?k8 ?_; (case k1 => k_asm); (case k2 => k_asm); (case k3 => k_asm); (case k4 => k_asm); (case k5 => k_asm); (case k6 => first | exact rfl | assumption); (case k7 => ktr_room); (case k8 => ktr_units); k_whole); (intro _ _ _ _); (try k_sweep))
  k_with "call ref" => ((k_here; (with_reducible show wpAny _ _ (call (Value.ref 145) [Value.str _ _]) _ _ _); k_dflt (refine' TClaim.use (splitroot_C _ _ _ _ _ _ _ (by kt_len)) ?k1 ?k2 ?k3 ?k4 ?k5 ?k6 ?k7 ?k8 ?_; (case k1 => k_asm); (case k2 => k_asm); (case k3 => k_asm); (case k4 => k_asm); (case k5 => k_asm); (case k6 => first | exact rfl | assumption); (case k7 => ktr_room); (case k8 => ktr_units); k_whole); (intro _ _ _ _ _ _ _ _ e1 e2 _ _ l1 _); (try k_lt l1); (subst e1 e2); (try k_sweep)); (try (revert l1; intro _)))
  k_with "call builtin:str.split" => ((k_here; (with_reducible show wpAny _ _ (call (Value.builtin "str.split") [Value.str _ _, Value.str (PySem.Str.ofString "/") _]) _ _ _); (refine KSpl.split1 (by k_asm) (by k_asm) (by decide) ?_ (by rw [PySem.sizeLine_eq]; omega)); (intro _ _ _ _ _ _ _ _ l1); (try k_lt l1)); (try (revert l1; intro _)))
  k_with "call builtin:list.append" => (k_here; (with_reducible show wpAny _ _ (call (Value.builtin _) [Value.ref _, _]) _ _ _); k_dflt (refine' append_L ?k1 ?k2 ?k3 ?z ?_; (case k1 => k_asm); (case k2 => k_asm); (case k3 => k_upd); (case z => with_reducible assumption); k_whole); intro _ _ _; (try k_sweep))
  k_with "call builtin:list.pop" => (k_here; k_dflt (refine' pop_snoc ?k1 ?k2 ?k3 ?z ?_; (case k1 => k_asm); (case k2 => k_asm); (case k3 => k_upd); (case z => with_reducible assumption); k_whole); intro _ _ _; (try k_sweep))
  k_with "subscriptTail Name UnaryOp ref int" => (k_here; (with_reducible show wpAny _ _ (subscriptTail _ _ (Value.ref _) (Value.int _ _)) _ _ _); (with_unfolding_all refine' last_snoc ?k1 ?k2 ?_ ?k3 ?k4; (case k1 => k_asm); (case k2 => k_mem); (case k3 => with_unfolding_all rfl); (case k4 => (intro _; with_unfolding_all rfl)); k_whole))
  k_with "truthy ref" => (k_here; (with_reducible show wpAny _ _ (truthy (Value.ref _)) _ _ _); k_dflt (refine' truthy_strs ?k1 ?k2 ?k3 ?k4 ?g0 ?g1; (case k1 => k_asm); (case k2 => k_mem); (case k3 => with_reducible assumption); (case k4 => with_reducible assumption)); (case' g0 => (intro e1 _; subst e1)); (case' g1 => (intro _ _ _ _ e1 _ _; subst e1)))
  k_with "truthy ref" => (k_here; (with_reducible show wpAny _ _ (truthy (Value.ref _)) _ _ _); k_dflt (refine' truthy_snoc ?k1 ?k2 ?k4 ?_; (case k1 => k_asm); (case k2 => k_mem); (case k4 => with_reducible assumption); k_whole))
  k_with "TPost" => (dsimp only [TPost])
  trivial
theorem lines_40 : True := by
  k_with "truthy str" => (k_here; (with_reducible show wpAny _ _ (PySem.truthy (Value.str _ _)) _ _ _); (refine' KXt.truthy_pos ?kxta ?kxtb ?kxtc ?_; (case kxta => with_reducible assumption); (case kxtb => with_reducible assumption); (case kxtc => exact Nat.le_of_ble_eq_true rfl)); intro _)
  k_with "call builtin:str.join" => (k_here; (with_reducible show wpAny _ _ (call (Value.builtin "str.join") [Value.str _ _, Value.ref _]) _ _ _); k_dflt (refine' join_listC ?k1 ?k2 ?k3 ?k4 ?_; (case k1 => exact News.isList (by k_asm) (by k_mem)); (case k2 => with_reducible assumption); (case k3 => decide); (case k4 => with_reducible assumption); k_whole); intro _ _)
  k_with "binaryOp Add str str" => (k_here; (with_reducible show wpAny _ _ (binaryOp Operator.Add (Value.str _ _) (Value.str _ _)) _ _ _); (refine' PyProof.Rows.add_str ?_ ?z; (case z => with_reducible assumption)); intro _ _)
  k_with "MY enter" => (refine' code_def ?k1 ?k2 ?k3 ?k4 ?k5 ?kA ?kF ?kK ?k6 ?k7 ?k8 ?k9 ?kB ?_ ?c2 ?c3 ?c4 ?c5; (case kA => exact rfl); (case kF => exact rfl); (case kK => first | assumption | exact rfl); (case k1 => k_asm); (case k2 => k_asm); (case k3 => k_asm); (case k4 => k_asm); (case k5 => k_asm); (case k6 => k_is); (case k7 => k_is); (case k8 => ktr_room); (case k9 => first | exact BindsTo.of_eq rfl | exact binds_K (by k_in) rfl (by k_is) rfl rfl rfl); (case c5 => decide); (case kB => exact locs rfl); (case c2 => exact rfl); (case c3 => exact rfl); (case c4 => exact rfl); k_whole; intro _ _ _ _ _ _ _ _ _; (try dsimp only); (try k_fold))
  k_with "compareOp Is" => (k_here; (with_reducible show wpAny _ _ (compareOp CmpOp.Is (Value.str _ _) (Value.ref _)) _ _ _); refine wpAny_is_other (by rfl) (by intro x; cases x) ?_)
  k_with "exec For Name Name cons nil" => (k_here; (with_unfolding_all refine' For_turns (by k_asm) ?_; k_whole))
  trivial
theorem under_mk (A : Around) (C : Addr) (vals : List Value) (kw : List (Str × Value)) : A.under (.builtin "type.__call__" ⟨.ref C :: vals, kw⟩) = { handled := A.handled, depth := A.depth + 1, frames := A.frames, guards := A.guards, units := A.units + 1 } := by kernel_rfl
section
variable {prog : Program} {w : World} {A : Around} {E : Value → Shared → Prop} {s : Shared} {Q : Value → Shared → Prop} {h₀ : Heap} {L C : Addr} {m : Str → Option Value} {news : List (Addr × Obj)} {K : Frag}
theorem call_clsU {pos : List Value} {kw : List (Str × Value)} {fI : Addr} (F : Fr h₀ L s.heap m) (X₀ : K.In h₀) (N : News h₀ L s.heap news) (hm : makesIn K C = true) (hi : findIn K (.ref C) "__init__" = some (some (.ref fI))) (hf : isFn K (.ref fI) = true)
    (h : ∀ x dx h', Fr h₀ L h' m → News h₀ L h' ((x, instObj C dx) :: (dx, dictOf [] 0) :: news) → (∀ p ∈ news, p.1 < dx) → dx < x →
      codeAny (model prog w) { handled := A.handled, depth := A.depth + 1, frames := A.frames, guards := A.guards, units := A.units + 1 } (.call (.ref fI) ⟨.ref x :: pos, kw⟩) (InitBack x fun r s' => match r with | .ok (.ret v) => Q v s' | .ok _ => False | .error e => E e s') { s with heap := h' }) :
    wpAny (model prog w) A (call (.ref C) pos kw) Q E s := call_cls F X₀ N hm hi hf fun x dx h' F' N' l1 l2 => by rw [under_mk]; exact h x dx h' F' N' l1 l2
end
theorem lines_41 : True := by
  k_with "call ref" => ((k_here; (with_reducible show wpAny _ _ (call (Value.ref 714) [Value.str _ _]) _ _ _); k_dflt (refine' TClaim.use (sio_C _ _ _ _ _ _ _ (by assumption)) ?k1 ?k2 ?k3 ?k4 ?k5 ?k6 ?k7 ?k8 ?_; (case k1 => k_asm); (case k2 => k_asm); (case k3 => k_asm); (case k4 => k_asm); (case k5 => k_asm); (case k6 => first | exact rfl | assumption); (case k7 => ktr_room); (case k8 => ktr_units); k_whole); (intro _ _ _ _ _ _ _ _ _ _ _ _ l1 l2); (try k_lt2 l2); (try simp only [AllLt] at l1); (try k_sweep)); (try (revert l1; intro _)); (try (revert l2; intro _)))
  k_with "call ref" => ((k_here; (with_reducible show wpAny _ _ (call (Value.ref 849) _ _) _ _ _); k_dflt (refine' call_clsU ?k1 ?k2 ?k3 ?k4 ?k5 ?k6 ?_; (case k1 => k_asm); (case k2 => k_asm); (case k3 => k_asm); (case k4 => k_is); (case k5 => k_is); (case k6 => k_is); k_whole; intro _ _ _ _ _ l1 l2; (try k_lt l1); (try k_lt2 l2); (try k_sweep); walk_at "MY enter")); (try (revert l1; intro _)); (try (revert l2; intro _)))
  k_with "call type:collections.deque" => ((k_here; k_dflt (refine' deque_K ?k1 ?k2 ?_; (case k1 => k_asm); (case k2 => k_asm); k_whole); (intro _ _ _ _ l1); (try simp only [AllNe, and_true] at l1); (try k_sweep)); (try (revert l1; intro _)))
  k_with "exec If" => refine wpAny_If ?_
  trivial
section
variable {prog : Program} {w : World} {A₀ A : Around} {s : Shared} {base h₀ : Heap} {L : Addr} {m : Str → Option Value} {env : Env} {news : List (Addr × Obj)} {K : Frag} {p : Program} {loose : List Str} {mean : ExcName → Option Value} {mg mb : Str → Option Value}
    {R : Result → Shared → Prop} {name qual : Str} {params : Arguments} {body : List Stmt} {scope : Scope} {dV kV doc pm cdv ct oc : Value} {an od : Option Addr} {osl : Array (Option Value)} {f : Addr} {args : Args} {binds : List (Str × Value)}
theorem one_frame {env : Env} {L b : Addr} (hf : env.frame = some L) (h : b ∈ [env].filterMap (·.frame)) : b = L := by
  simpa [List.filterMap, hf] using h
/-- into a def from the one frame of the top's function, whatever cells it has -/
theorem into_top (B : Below A₀ base [] h₀) (F : Fr h₀ L s.heap m) (X₀ : K.In h₀) (N : News h₀ L s.heap news) (T : Top p loose mean mg mb h₀) (hA : A.frames = some [env]) (hf : env.frame = some L)
    (ho : K.lookup f = some ⟨oc, od, .func (fnOf name qual params body scope dV kV doc pm an cdv ct), osl⟩) (hcd : codeIn K cdv qual = true) (hroom : A.depth < recursionLimit)
    (hbind : BindsTo s (fnOf name qual params body scope dV kV doc pm an cdv ct) args binds) (hloc : ∀ y ∈ binds, scope.names.lookup y.1 = some .local)
    (h : ∀ g L' h₁, Fr h₀ L g m → Fr g L' h₁ (fun y => binds.reverse.lookup y) → News g L' h₁ news → Below A base [env] g → K.In g → Top p loose mean mg mb g → KtsDicts ([env].filterMap (·.frame)) g →
      wpAny (model prog w) (A.deeper (envOf qual scope L' f cdv)) (execs body (envOf qual scope L' f cdv))
        (fun fl s' => LeaveS0 ([env].filterMap (·.frame)) h₀ L m g R (match fl with | .ret v => v | _ => .none) s')
        (fun e s' => wpAny (model prog w) (A.deeper (envOf qual scope L' f cdv)) (leaving (envOf qual scope L' f cdv) e) (fun _ s'' => R (.error e) s'') (fun e' s'' => R (.error e') s'') s')
        { s with heap := h₁, toks := s.toks + binds.length })
    (hke : env.scope.kind = .function) (hco : scope.isCoroutine = false) (hgen : scope.isGenerator = false) (hk : scope.kind = .function)
    (hcell : ∀ x ∈ scope.names, x.2 ≠ .cell) : codeAny (model prog w) A (.call (.ref f) args) R s := by
  obtain ⟨FG, BG, st, -⟩ := groundX (R := R) B F N hA hf hke
  obtain ⟨oL, es, ep, a1, a2, a3, a4⟩ := id FG.ns
  have hL0 : h₀.get? L = none := kts_self F
  have X := X₀.keeps F.keep
  refine codeAny_call_def (fd := fnOf name qual params body scope dV kV doc pm an cdv ct) (body := body) (binds := binds) hroom (X _ _ ho) rfl (T.nolimit.keeps F.keep) (codeRec_of X hcd) rfl hbind hcell hloc (fun h₁ hns hk₁ => ?_) hco hgen hk
  refine wpAny_mono (h _ s.heap.objs.size h₁ FG ⟨hns, fun b o e => hk₁ b o (of_hideAll _ e), Nat.le_of_eq (hideAll_size _ _)⟩ (fun q hq => ⟨hk₁ _ _ (N q hq).1, Nat.ne_of_lt (Heap.lt_size (N q hq).1), hideAll_none _ (List.mem_map_of_mem hq)⟩) BG (X₀.keeps st) (T.keeps st)
    (fun b hb => by rw [one_frame hf hb]; exact ⟨oL, es, ep, a1, a2⟩)) (fun fl s' hl => ?_) fun _ _ y => y
  obtain ⟨g', L', m', news', T', F', N', back⟩ := hl
  obtain ⟨sl, hs⟩ := T'.up a1
  have keep : ∀ b o, h₀.get? b = some o → g'.get? b = some o := fun b o e => T'.other b o (st b o e) fun hb => by
    rw [one_frame hf hb, hL0] at e; exact nomatch e
  refine back ⟨⟨_, es, ep, F'.keep _ _ hs, a2, a3, a4⟩, fun b o e => F'.keep b o (keep b o e), F.above⟩ fun q hq => ⟨(N' q hq).1, fun e => ?_, ?_⟩
  · have := (N' q hq).2.2
    rw [e, hs] at this; exact nomatch this
  · cases e : h₀.get? q.1 with
    | none => rfl
    | some o =>
      have := (N' q hq).2.2
      rw [keep _ _ e] at this; exact nomatch this
end
theorem lines_42 : True := by
  k_with "MY top" => (refine' into_top ?k1 ?k2 ?k3 ?k4 ?k5 ?kA ?kF ?k6 ?k7 ?k8 ?k9 ?kB ?_ ?cK ?c2 ?c3 ?c4 ?c5; (case kA => exact rfl); (case kF => exact rfl); (case k2 => k_asm); (case k1 => k_asm); (case k3 => k_asm); (case k4 => k_asm); (case k5 => k_asm); (case k6 => k_is); (case k7 => k_is); (case k8 => ktr_room); (case k9 => first | exact binds_K (by k_in) rfl (by k_is) rfl rfl rfl | exact BindsTo.of_eq rfl); (case kB => exact locs rfl); (case cK => first | assumption | exact rfl); (case c2 => exact rfl); (case c3 => exact rfl); (case c4 => exact rfl); (case c5 => decide); k_whole; intro _ _ _ _ _ _ _ _ _ _; (try dsimp only); (try k_fold))
  k_with "MY steps" => repeat' (first | (k_unfold; (try dsimp only)) | walk1 | (dsimp only; walk1) | (leave1; try dsimp only) | (k_end; wrow_close))
  trivial
/-- a call from the top's own function -/
abbrev LClaim (w : World) (mean : ExcName → Option Value) (mg mb : Str → Option Value) (news : List (Addr × Obj)) (f : Addr) (room : Nat) (vs : List Value)
    (post : (Value → Shared → Prop) → Heap → Addr → (Str → Option Value) → Shared → Prop) : Prop :=
  ∀ (dp un : Nat) (gd : Option (List Code)) (cn : Str) (cs : Scope) (a : Addr) (ccd : Value) (cl : List (Str × Addr)) (A₀ : Around) (base h₀ : Heap) (L : Addr) (m : Str → Option Value) (s : Shared) (Q E : Value → Shared → Prop),
    Below A₀ base [] h₀ → Fr h₀ L s.heap m → (hd.heap_39 w.params).In h₀ → News h₀ L s.heap news → Top hd.view_39 LS mean mg mb h₀ → cs.kind = .function →
    dp + room < recursionLimit → un + 8 * room < cLine → post Q h₀ L m s →
    wpAny (model PG w) (ktrTop dp un gd cn cs L a ccd cl []) (call (.ref f) vs) Q E s
theorem led_of {w : World} {h₀ h : Heap} {L S SD LX LD PB FS : Addr} {x : Str} {news : List (Addr × Obj)} {t1 t2 t3 u1 u2 u3 ts tt k0 k1 k2 k3 k4 k5 k6 k7 k8 k9 k10 k11 k12 k13 k14 k15 k16 k17 k18 v0 v1 v2 v3 v4 v5 v6 v7 v8 : Tok}
    (N : News h₀ L h ((FS, dqObj) :: (PB, dqObj) :: (S, instObj 714 SD) :: (SD, sioD w x 0 t1 t2 t3 u1 u2 u3) :: (LX, instObj 849 LD) :: (LD, dictOf [ent w "instream" k0 (.ref S), ent w "infile" k1 .none, ent w "posix" k2 (.bool true), ent w "eof" k3 .none, ent w "commenters" k4 (.str (Str.ofString "") v0), ent w "wordchars" k5 (.str WCH v1), ent w "whitespace" k6 (.str (Str.ofString " \t\r\n") v2), ent w "whitespace_split" k7 (.bool true), ent w "quotes" k8 (.str (Str.ofString "'\"") v3), ent w "escape" k9 (.str (Str.ofString "\\") v4), ent w "escapedquotes" k10 (.str (Str.ofString "\"") v5), ent w "state" k11 (.str (Str.ofString " ") ts), ent w "pushback" k12 (.ref PB), ent w "lineno" k13 (.int 1 v6), ent w "debug" k14 (.int 0 v7), ent w "token" k15 (.str (Str.ofString "") tt), ent w "filestack" k16 (.ref FS), ent w "source" k17 .none, ent w "_punctuation_chars" k18 (.str (Str.ofString "") v8)] 19) :: news)) :
    News h₀ L h (LED w S SD LX LD PB FS x 0 (fun i => [t1, t2, t3].getD i 0) (fun i => [u1, u2].getD i 0) u3 (fun i => [k0, k1, k2, k3, k4, k5, k6, k7, k8, k9, k10, k11, k12, k13, k14, k15, k16, k17, k18].getD i 0) (fun i => [v0, v1, v2, v3, v4, v5, v6, v7, v8].getD i 0) (.str (Str.ofString " ") ts) (.str (Str.ofString "") tt) news) := by
  intro q hq
  have hq' : q ∈ (S, instObj 714 SD) :: (SD, sioD w x 0 t1 t2 t3 u1 u2 u3) :: (LX, instObj 849 LD) :: (LD, dictOf [ent w "instream" k0 (.ref S), ent w "infile" k1 .none, ent w "posix" k2 (.bool true), ent w "eof" k3 .none, ent w "commenters" k4 (.str (Str.ofString "") v0), ent w "wordchars" k5 (.str WCH v1), ent w "whitespace" k6 (.str (Str.ofString " \t\r\n") v2), ent w "whitespace_split" k7 (.bool true), ent w "quotes" k8 (.str (Str.ofString "'\"") v3), ent w "escape" k9 (.str (Str.ofString "\\") v4), ent w "escapedquotes" k10 (.str (Str.ofString "\"") v5), ent w "state" k11 (.str (Str.ofString " ") ts), ent w "pushback" k12 (.ref PB), ent w "lineno" k13 (.int 1 v6), ent w "debug" k14 (.int 0 v7), ent w "token" k15 (.str (Str.ofString "") tt), ent w "filestack" k16 (.ref FS), ent w "source" k17 .none, ent w "_punctuation_chars" k18 (.str (Str.ofString "") v8)] 19) :: (PB, dqObj) :: (FS, dqObj) :: news := hq
  refine N q ?_
  simp only [List.mem_cons] at hq' ⊢
  rcases hq' with h | h | h | h | h | h | h
  · exact .inr (.inr (.inl h))
  · exact .inr (.inr (.inr (.inl h)))
  · exact .inr (.inr (.inr (.inr (.inl h))))
  · exact .inr (.inr (.inr (.inr (.inr (.inl h)))))
  · exact .inr (.inl h)
  · exact .inl h
  · exact .inr (.inr (.inr (.inr (.inr (.inr h)))))
theorem allLt_allNe {d : Nat} : ∀ {l : List (Addr × Obj)}, AllLt d l → AllNe d l
  | [], _ => trivial
  | _ :: _, h => ⟨Nat.ne_of_lt h.1, allLt_allNe h.2⟩
theorem memLt_allNe {d : Nat} {l : List (Addr × Obj)} (h : ∀ p ∈ l, p.1 < d) : AllNe d l := allNe_of fun p hp => Nat.ne_of_lt (h p hp)
theorem split_C (w : World) (mean : ExcName → Option Value) (mg mb : Str → Option Value) (news : List (Addr × Obj)) (x : Str) (tx : Tok) (l : List Nat) (ws : List (List Nat)) (hX : x = mk l) (hx : x.length ≤ 100000) (h1 : 1 ≤ x.length) (hw : Toks l ws) (hl : ws.length ≤ 1000) :
    LClaim w mean mg mb news 861 30 [.str x tx] (fun Q h₀ L m s => ∀ (Sx : Addr) (vs : List Value) (n : Nat) (h' : Heap) (tk' : Nat), StrsAre vs (ws.map mk) → Fr h₀ L h' m → News h₀ L h' ((Sx, listOf vs.toArray n) :: news) → (∀ q ∈ news, q.1 < Sx) → Q (.ref Sx) { s with heap := h', toks := tk' }) := by
  dsimp only [LClaim]
  intros
  rename_i hret
  refine wpAny_call ?_
  k_dflt (walk_at "MY top")
  walk_at "MY steps"
  k_dflt (refine' list_lex (l := l) (ws := ws) hw ?B ?X ?T ?hk ?hd ?hu hX hx ?hA hl ?F ?N ?_)
  case N => exact led_of (by assumption)
  case B => assumption
  case X => assumption
  case T => assumption
  case hk => exact rfl
  case hd => ktr_room
  case hu => ktr_units
  case F => assumption
  case hA => exact ⟨by omega, by omega, by omega, by omega, by omega, allLt_allNe (by first | assumption | exact (by assumption : _ ∧ _ ∧ AllLt _ news).2.2), by omega, by omega, by omega, by omega, by omega, memLt_allNe (by assumption)⟩
  intro Sx vs n h2 tk2 g2 hv TT F2 K2 N2 l2
  walk_at "MY steps"
  exact hret _ _ _ _ _ hv (by k_asm) (by assumption) l2
end SP3_

section LW_
theorem lines_43 : True := by
  k_with_none
  k_with "call builtin:issubclass" => (k_here; (with_reducible show wpAny _ _ (call (Value.builtin "issubclass") [Value.type "str", Value.ref _]) _ _ _); k_dflt (refine' issub_K ?k1 ?k2 ?_; (case k1 => k_asm); (case k2 => k_mem); k_whole); intro _)
  k_with "call builtin:str.split" => ((k_here; (with_reducible show wpAny _ _ (call (Value.builtin "str.split") [Value.str _ _, Value.str (PySem.Str.ofString "/") _]) _ _ _); (refine KSpl.split1 (by k_asm) (by k_asm) (by decide) ?_ (by rw [PySem.sizeLine_eq]; omega)); (intro _ _ _ _ _ _ _ _ l1); (try k_lt l1)); (try (revert l1; intro _)))
  k_with "call builtin:list.append" => (k_here; (with_reducible show wpAny _ _ (call (Value.builtin _) [Value.ref _, _]) _ _ _); k_dflt (refine' append_L ?k1 ?k2 ?k3 ?z ?_; (case k1 => k_asm); (case k2 => k_asm); (case k3 => k_upd); (case z => with_reducible assumption); k_whole); intro _ _ _; (try k_sweep))
  k_with "call builtin:list.pop" => (k_here; k_dflt (refine' pop_snoc ?k1 ?k2 ?k3 ?z ?_; (case k1 => k_asm); (case k2 => k_asm); (case k3 => k_upd); (case z => with_reducible assumption); k_whole); intro _ _ _; (try k_sweep))
  k_with "subscriptTail Name UnaryOp ref int" => (k_here; (with_reducible show wpAny _ _ (subscriptTail _ _ (Value.ref _) (Value.int _ _)) _ _ _); (with_unfolding_all refine' last_snoc ?k1 ?k2 ?_ ?k3 ?k4; (case k1 => k_asm); (case k2 => k_mem); (case k3 => with_unfolding_all rfl); (case k4 => (intro _; with_unfolding_all rfl)); k_whole))
  k_with "truthy ref" => (k_here; (with_reducible show wpAny _ _ (truthy (Value.ref _)) _ _ _); k_dflt (refine' truthy_strs ?k1 ?k2 ?k3 ?k4 ?g0 ?g1; (case k1 => k_asm); (case k2 => k_mem); (case k3 => with_reducible assumption); (case k4 => with_reducible assumption)); (case' g0 => (intro e1 _; subst e1)); (case' g1 => (intro _ _ _ _ e1 _ _; subst e1)))
  k_with "truthy ref" => (k_here; (with_reducible show wpAny _ _ (truthy (Value.ref _)) _ _ _); k_dflt (refine' truthy_snoc ?k1 ?k2 ?k4 ?_; (case k1 => k_asm); (case k2 => k_mem); (case k4 => with_reducible assumption); k_whole))
  k_with "TPost" => (dsimp only [TPost])
  trivial
theorem lines_44 : True := by
  k_with "truthy str" => (k_here; (with_reducible show wpAny _ _ (PySem.truthy (Value.str _ _)) _ _ _); (refine' KXt.truthy_pos ?kxta ?kxtb ?kxtc ?_; (case kxta => with_reducible assumption); (case kxtb => with_reducible assumption); (case kxtc => exact Nat.le_of_ble_eq_true rfl)); intro _)
  k_with "call builtin:str.join" => (k_here; (with_reducible show wpAny _ _ (call (Value.builtin "str.join") [Value.str _ _, Value.ref _]) _ _ _); k_dflt (refine' join_listC ?k1 ?k2 ?k3 ?k4 ?_; (case k1 => exact News.isList (by k_asm) (by k_mem)); (case k2 => with_reducible assumption); (case k3 => decide); (case k4 => with_reducible assumption); k_whole); intro _ _)
  k_with "binaryOp Add str str" => (k_here; (with_reducible show wpAny _ _ (binaryOp Operator.Add (Value.str _ _) (Value.str _ _)) _ _ _); (refine' PyProof.Rows.add_str ?_ ?z; (case z => with_reducible assumption)); intro _ _)
  k_with "MY enter" => (refine' code_def ?k1 ?k2 ?k3 ?k4 ?k5 ?kA ?kF ?kK ?k6 ?k7 ?k8 ?k9 ?kB ?_ ?c2 ?c3 ?c4 ?c5; (case kA => exact rfl); (case kF => exact rfl); (case kK => first | assumption | exact rfl); (case k1 => k_asm); (case k2 => k_asm); (case k3 => k_asm); (case k4 => k_asm); (case k5 => k_asm); (case k6 => k_is); (case k7 => k_is); (case k8 => ktr_room); (case k9 => first | exact BindsTo.of_eq rfl | exact binds_K (by k_in) rfl (by k_is) rfl rfl rfl); (case c5 => decide); (case kB => exact locs rfl); (case c2 => exact rfl); (case c3 => exact rfl); (case c4 => exact rfl); k_whole; intro _ _ _ _ _ _ _ _ _; (try dsimp only); (try k_fold))
  k_with "compareOp Is" => (k_here; (with_reducible show wpAny _ _ (compareOp CmpOp.Is (Value.str _ _) (Value.ref _)) _ _ _); refine wpAny_is_other (by rfl) (by intro x; cases x) ?_)
  k_with "exec For Name Name cons nil" => (k_here; (with_unfolding_all refine' For_turns (by k_asm) ?_; k_whole))
  trivial
structure HeldC (P : Prop) : Prop where
  out : P
theorem heldC {P : Prop} (h : HeldC P) : P := h.out
theorem lines_45 : True := by
  k_with "MY enterC" => ((refine' code_defC ?k1 ?k2 ?k3 ?k4 ?k5 ?kA ?kF ?kK ?k6 ?k7 ?k8 ?k9 ?kB ?kD ?_ ?c2 ?c3 ?c4; (case kA => exact rfl); (case kF => exact rfl); (case kK => first | assumption | exact rfl); (case k1 => k_asm); (case k2 => k_asm); (case k3 => k_asm); (case k4 => k_asm); (case k5 => k_asm); (case k6 => k_is); (case k7 => k_is); (case k8 => ktr_room); (case k9 => first | exact BindsTo.of_eq rfl | exact binds_K (by k_in) rfl (by k_is) rfl rfl rfl); (case kB => exact rfl); (case kD => decide +kernel); (case c2 => exact rfl); (case c3 => exact rfl); (case c4 => exact rfl); k_whole; intro _ _ _ _ _ _ _ N' Y' _ _ _ l1; (try k_lt l1); k_cells Y'; (try simp only [List.cons_append, List.nil_append] at N'); (try dsimp only); (try k_fold)); (try (revert Y'; intro _)); (try (revert l1; intro _)))
  k_with "CompSrc" => (k_here; (with_reducible show LCg.CompSrc _ _ _ _ _ _ _ _ _ _ _ _ _ _); refine heldC ?_)
  trivial
def TBL6 : List Str := [Str.ofString "..", Str.ofString "a b", Str.ofString "it's", Str.ofString "c", Str.ofString ".", Str.ofString ""]
def TBL5 : List Str := [Str.ofString "", Str.ofString "/", Str.ofString "//", Str.ofString "///", Str.ofString "./"]
def LWG (x k : Int) : Str := TBL6.getD (((x.fdiv 15).fdiv (6 ^ k.toNat)).fmod 6).toNat Str.empty
abbrev lwN (x : Int) : Nat := (1 + (x.fdiv 5).fmod 3 - 0).toNat
def lwPs (x : Int) : List Str := (rangeKs 0 (lwN x)).map (LWG x)
def wordF (x : Int) : Str := TBL5.getD (x.fmod 5).toNat Str.empty ++ Txt.join (Str.ofString "/") (lwPs x)
theorem tbl6_len (i : Nat) : (TBL6.getD i Str.empty).length ≤ 4 := by
  by_cases h : i < 6
  · have : i = 0 ∨ i = 1 ∨ i = 2 ∨ i = 3 ∨ i = 4 ∨ i = 5 := by omega
    rcases this with rfl | rfl | rfl | rfl | rfl | rfl <;> decide +kernel
  · rw [List.getD_eq_getElem?_getD, List.getElem?_eq_none (by show 6 ≤ i; omega)]; decide +kernel
theorem tbl5_len (i : Nat) : (TBL5.getD i Str.empty).length ≤ 3 := by
  by_cases h : i < 5
  · have : i = 0 ∨ i = 1 ∨ i = 2 ∨ i = 3 ∨ i = 4 := by omega
    rcases this with rfl | rfl | rfl | rfl | rfl <;> decide +kernel
  · rw [List.getD_eq_getElem?_getD, List.getElem?_eq_none (by show 5 ≤ i; omega)]; decide +kernel
theorem sum_le {L : List Str} {c : Nat} (h : ∀ y ∈ L, y.length ≤ c) : (L.map (·.length)).sum ≤ L.length * c := by
  induction L with
  | nil => simp
  | cons a r ih =>
    rw [List.map_cons, List.sum_cons, List.length_cons, Nat.add_mul]
    have := ih fun y hy => h y (.tail _ hy)
    have := h a (.head _)
    omega
theorem lwN_le (x : Int) : lwN x ≤ 3 := by
  have h1 : 0 ≤ (x.fdiv 5).fmod 3 := Int.fmod_nonneg_of_pos _ (by decide)
  have h2 : (x.fdiv 5).fmod 3 < 3 := Int.fmod_lt_of_pos _ (by decide)
  unfold lwN
  omega
theorem lwPs_len (x : Int) : (lwPs x).length ≤ 3 := by
  unfold lwPs
  rw [List.length_map, rangeKs_length]
  exact lwN_le x
theorem lwPs_each (x : Int) : ∀ y ∈ lwPs x, y.length ≤ 4 := by
  intro y hy
  obtain ⟨k, _, rfl⟩ := List.mem_map.mp hy
  exact tbl6_len _
theorem lwPs_sum (x : Int) : ((lwPs x).map (·.length)).sum + (lwPs x).length * 64 ≤ 16777216 := by
  have h1 := sum_le (lwPs_each x)
  have h2 := lwPs_len x
  omega
theorem pow6 (k : Nat) (h : k < 3) : ((6 : Int) ^ k) ≠ 0 ∧ ((6 : Int) ^ k).natAbs < 1073741824 := by
  have : k = 0 ∨ k = 1 ∨ k = 2 := by omega
  rcases this with rfl | rfl | rfl <;> exact ⟨by decide, by decide⟩
theorem fm_nn (a : Int) (n : Int) (h : 0 < n) : 0 ≤ a.fmod n := Int.fmod_nonneg_of_pos _ h
theorem fm_lt (a : Int) (n : Int) (h : 0 < n) : a.fmod n < n := Int.fmod_lt_of_pos _ h
theorem lines_46 : True := by
  k_with "binaryOp FloorDiv int int" => (k_here; (with_reducible show wpAny _ _ (binaryOp Operator.FloorDiv (Value.int _ _) (Value.int (6 ^ _) _)) _ _ _); (refine PyProof.Rows.floordiv_int (pow6 _ (by with_reducible assumption)).1 ?_ (Or.inl (PyProof.noPylong_small (pow6 _ (by with_reducible assumption)).2))))
  k_with "subscriptTail" => (k_here; (with_reducible show wpAny _ _ (subscriptTail _ _ (Value.ref _) (Value.int (Int.fmod _ 6) _)) _ _ _); k_dflt (refine' KTb.item_list (ws := TBL6) ?ktbl ?ktbw (fm_nn _ 6 (by decide)) (Int.lt_of_lt_of_le (fm_lt _ 6 (by decide)) (by decide)) (Int.lt_of_lt_of_le (fm_lt _ 6 (by decide)) (by decide)) ?_; (case ktbl => exact News.isList (by k_asm) (by k_mem)); (case ktbw => repeat constructor); k_whole); (intro _ _))
  k_with "subscriptTail" => (k_here; (with_reducible show wpAny _ _ (subscriptTail _ _ (Value.ref _) (Value.int (Int.fmod _ 5) _)) _ _ _); k_dflt (refine' KTb.item_list (ws := TBL5) ?ktbl ?ktbw (fm_nn _ 5 (by decide)) (Int.lt_of_lt_of_le (fm_lt _ 5 (by decide)) (by decide)) (Int.lt_of_lt_of_le (fm_lt _ 5 (by decide)) (by decide)) ?_; (case ktbl => exact News.isList (by k_asm) (by k_mem)); (case ktbw => repeat constructor); k_whole); (intro _ _))
  trivial
theorem lw_C (w : World) (mean : ExcName → Option Value) (mg mb : Str → Option Value) (news : List (Addr × Obj)) (x : Int) (tx : Tok) :
    TClaim w mean mg mb news 874 5 [.int x tx] (rText news (wordF x)) := by
  dsimp only [TClaim]
  intros
  rename_i hret
  refine wpAny_call ?_
  k_dflt (walk_at "MY enterC")
  k_steps
  refine ⟨?_⟩
  have hn := lwN_le x
  have q1 := fm_nn (x.fdiv 5) 3 (by decide)
  have q2 := fm_lt (x.fdiv 5) 3 (by decide)
  k_dflt (refine LCg.CompSrc.range (by rfl) (by k_asm) (by k_asm) (by assumption) (by first | decide | exact small_one (by omega) (by omega) (by omega) (by omega)) (by first | exact rangeSize_nat _ _ | rfl) (by rw [PySem.sizeLine_eq]; omega) ?_)
  intro g'
  refine' kct_range (LWG x) (fun k' t' I' oI' C' oC' D' m' ys' h' tk' E' hlo' hhi' hC' hx' F' N' off' ne' hMark' => ?_) ?_
  · (try simp only [LCg.Off3, and_true] at off')
    have hk3 : k'.toNat < 3 := by omega
    k_steps
    refine' LCg.CompEnd.intro ?F ?N _ ?sub ?off ?S ⟨rfl, _, rfl⟩
    (case F => assumption)
    (case N => assumption)
    (case off => exact off')
    (case sub => kcj_all)
    (case S => trivial)
  · unfold KPfDone
    intro ys hC hL
    have hs2 : StrsAre ys.toArray.toList (lwPs x) := CarriedAll.strsOf hC
    have hz1 := lwPs_sum x
    have hz2 : (TBL5.getD (x.fmod 5).toNat Str.empty).length + (Txt.join (Str.ofString "/") (lwPs x)).length ≤ sizeLine := by
      have a1 := tbl5_len (x.fmod 5).toNat
      have a2 := join_len_wt (Str.ofString "/") (by decide +kernel) (lwPs x)
      have a3 : wt (lwPs x) ≤ 16000000 := by
        have b1 := sum_le (lwPs_each x)
        have b2 := lwPs_len x
        unfold wt
        omega
      rw [PySem.sizeLine_eq]
      omega
    k_steps
    exact hret _ _ _ (by k_asm) (cb_drop (by assumption) (by kcj_all))
end LW_

section PL3_
theorem lines_47 : True := by
  k_with_none
  k_with "call builtin:issubclass" => (k_here; (with_reducible show wpAny _ _ (call (Value.builtin "issubclass") [Value.type "str", Value.ref _]) _ _ _); k_dflt (refine' issub_K ?k1 ?k2 ?_; (case k1 => k_asm); (case k2 => k_mem); k_whole); intro _)
  k_with "call builtin:str.split" => ((k_here; (with_reducible show wpAny _ _ (call (Value.builtin "str.split") [Value.str _ _, Value.str (PySem.Str.ofString "/") _]) _ _ _); (refine KSpl.split1 (by k_asm) (by k_asm) (by decide) ?_ (by rw [PySem.sizeLine_eq]; omega)); (intro _ _ _ _ _ _ _ _ l1); (try k_lt l1)); (try (revert l1; intro _)))
  k_with "call builtin:list.append" => (k_here; (with_reducible show wpAny _ _ (call (Value.builtin _) [Value.ref _, _]) _ _ _); k_dflt (refine' append_L ?k1 ?k2 ?k3 ?z ?_; (case k1 => k_asm); (case k2 => k_asm); (case k3 => k_upd); (case z => with_reducible assumption); k_whole); intro _ _ _; (try k_sweep))
  k_with "call builtin:list.pop" => (k_here; k_dflt (refine' pop_snoc ?k1 ?k2 ?k3 ?z ?_; (case k1 => k_asm); (case k2 => k_asm); (case k3 => k_upd); (case z => with_reducible assumption); k_whole); intro _ _ _; (try k_sweep))
  k_with "subscriptTail Name UnaryOp ref int" => (k_here; (with_reducible show wpAny _ _ (subscriptTail _ _ (Value.ref _) (Value.int _ _)) _ _ _); (with_unfolding_all refine' last_snoc ?k1 ?k2 ?_ ?k3 ?k4; (case k1 => k_asm); (case k2 => k_mem); (case k3 => with_unfolding_all rfl); (case k4 => (intro _; with_unfolding_all rfl)); k_whole))
  k_with "truthy ref" => (k_here; (with_reducible show wpAny _ _ (truthy (Value.ref _)) _ _ _); k_dflt (refine' truthy_strs ?k1 ?k2 ?k3 ?k4 ?g0 ?g1; (case k1 => k_asm); (case k2 => k_mem); (case k3 => with_reducible assumption); (case k4 => with_reducible assumption)); (case' g0 => (intro e1 _; subst e1)); (case' g1 => (intro _ _ _ _ e1 _ _; subst e1)))
  k_with "truthy ref" => (k_here; (with_reducible show wpAny _ _ (truthy (Value.ref _)) _ _ _); k_dflt (refine' truthy_snoc ?k1 ?k2 ?k4 ?_; (case k1 => k_asm); (case k2 => k_mem); (case k4 => with_reducible assumption); k_whole))
  k_with "TPost" => (dsimp only [TPost])
  k_with "execs cons" => (k_here; (try k_gentoks); (with_reducible refine wpAny_execs_cons ?_); (try dsimp only); (try k_fold))
  trivial
theorem lines_48 : True := by
  k_with "truthy str" => (k_here; (with_reducible show wpAny _ _ (PySem.truthy (Value.str _ _)) _ _ _); (refine' KXt.truthy_pos ?kxta ?kxtb ?kxtc ?_; (case kxta => with_reducible assumption); (case kxtb => with_reducible assumption); (case kxtc => exact Nat.le_of_ble_eq_true rfl)); intro _)
  k_with "call builtin:str.join" => (k_here; (with_reducible show wpAny _ _ (call (Value.builtin "str.join") [Value.str _ _, Value.ref _]) _ _ _); k_dflt (refine' join_listC ?k1 ?k2 ?k3 ?k4 ?_; (case k1 => exact News.isList (by k_asm) (by k_mem)); (case k2 => with_reducible assumption); (case k3 => decide); (case k4 => with_reducible assumption); k_whole); intro _ _)
  k_with "binaryOp Add str str" => (k_here; (with_reducible show wpAny _ _ (binaryOp Operator.Add (Value.str _ _) (Value.str _ _)) _ _ _); (refine' PyProof.Rows.add_str ?_ ?z; (case z => with_reducible assumption)); intro _ _)
  k_with "MY enter" => (refine' code_def ?k1 ?k2 ?k3 ?k4 ?k5 ?kA ?kF ?kK ?k6 ?k7 ?k8 ?k9 ?kB ?_ ?c2 ?c3 ?c4 ?c5; (case kA => exact rfl); (case kF => exact rfl); (case kK => first | assumption | exact rfl); (case k1 => k_asm); (case k2 => k_asm); (case k3 => k_asm); (case k4 => k_asm); (case k5 => k_asm); (case k6 => k_is); (case k7 => k_is); (case k8 => ktr_room); (case k9 => first | exact BindsTo.of_eq rfl | exact binds_K (by k_in) rfl (by k_is) rfl rfl rfl); (case c5 => decide); (case kB => exact locs rfl); (case c2 => exact rfl); (case c3 => exact rfl); (case c4 => exact rfl); k_whole; intro _ _ _ _ _ _ _ _ _; (try dsimp only); (try k_fold))
  k_with "compareOp Is" => (k_here; (with_reducible show wpAny _ _ (compareOp CmpOp.Is (Value.str _ _) (Value.ref _)) _ _ _); refine wpAny_is_other (by rfl) (by intro x; cases x) ?_)
  k_with "exec For Name Name cons nil" => (k_here; (with_unfolding_all refine' For_turns (by k_asm) ?_; k_whole))
  trivial
structure Held2 (P : Prop) : Prop where
  out : P
theorem held2 {P : Prop} (h : Held2 P) : P := h.out
theorem lines_49 : True := by
  k_with "exec If" => refine wpAny_If ?_
  k_with "exec For" => (k_here; (with_reducible show wpAny _ _ (exec (Stmt.For _ _ _ _ _) _) _ _ _); refine held2 ?_)
  k_with "exec For Name Name cons nil" => (k_here; (with_reducible show wpAny _ _ (exec (Stmt.For _ _ _ _ _) _) _ _ _); refine held2 ?_)
  k_with "exec For Name Call cons nil" => (k_here; (with_reducible show wpAny _ _ (exec (Stmt.For _ _ _ _ _) _) _ _ _); refine held2 ?_)
  trivial
section
variable {prog : Program} {w : World} {A : Around} {E : Value → Shared → Prop} {h₀ : Heap} {env : Env} {target : Expr} {body : List Stmt} {Q : Flow → Shared → Prop} {s : Shared}
theorem for_items {ax : Addr} {vs : List Value} {n : Nat} {xs : List Str} {m₀ : Str → Option Value} {news : List (Addr × Obj)} (J : Addr → List Str → (Str → Option Value) → List (Addr × Obj) → Prop)
    (hh : A.handled = none) (F : Fr h₀ env.locals s.heap m₀) (N : News h₀ env.locals s.heap news) (hm : (ax, listOf vs.toArray n) ∈ news) (hv : StrsAre vs xs)
    (turn : ∀ (I : Addr) (o : Obj) (pre : List Str) (x : Str) (t : Tok) (rs : List Str) (m : Str → Option Value) (nw : List (Addr × Obj)) (h : Heap) (tk : Nat), (∀ p ∈ news, p.1 < I) → xs = pre ++ x :: rs → J I pre m nw →
      Fr h₀ env.locals h m → News h₀ env.locals h ((I, o) :: nw) →
      wpAny (model prog w) A (assign target env (.str x t)) (fun _ s₂ => wpAny (model prog w) A (execs body env)
        (TPost h₀ env.locals { s with heap := h, toks := tk } [(I, o)] (fun m' n' => (ax, listOf vs.toArray n) ∈ n' ∧ J I (pre ++ [x]) m' n') Q) E s₂) E { s with heap := h, toks := tk })
    (done : ∀ (I : Addr) (m : Str → Option Value) (nw : List (Addr × Obj)) (h : Heap) (tk : Nat), (∀ p ∈ news, p.1 < I) → J I xs m nw → Fr h₀ env.locals h m → News h₀ env.locals h nw → Q .next { s with heap := h, toks := tk })
    (h0 : ∀ I, (∀ p ∈ news, p.1 < I) → J I [] m₀ news) : wpAny (model prog w) A (pyIter (.ref ax)) (fun it s₂ => TurnsAt prog w A h₀ env target body Q E it s₂) E s :=
  iter_listTurns hh F N hm rfl rfl (fun I hI => items_strs (J I) hv (fun o pre x t rs m nw h tk e j F' N' => turn I o pre x t rs m nw h tk hI e j F' N') (fun m nw h tk j F' N' => done I m nw h tk hI j F' N') (h0 I hI))
end
abbrev mf5 (m₀ : Str → Option Value) (u1 u2 u5 : Option Value) (r st : Value) : Str → Option Value := fun z => if z = Str.ofString "piece" then u5 else if z = Str.ofString "stack" then some st else if z = Str.ofString "root" then some r else if z = Str.ofString "rest" then u2 else if z = Str.ofString "word" then u1 else m₀ z
theorem nm1 : Str.ofString "piece" ≠ Str.ofString "stack" := by decide +kernel
theorem nm2 : Str.ofString "piece" ≠ Str.ofString "root" := by decide +kernel
theorem nm3 : Str.ofString "piece" ≠ Str.ofString "rest" := by decide +kernel
theorem nm4 : Str.ofString "piece" ≠ Str.ofString "word" := by decide +kernel
theorem nm5 : Str.ofString "stack" ≠ Str.ofString "root" := by decide +kernel
theorem nm6 : Str.ofString "stack" ≠ Str.ofString "rest" := by decide +kernel
theorem nm7 : Str.ofString "stack" ≠ Str.ofString "word" := by decide +kernel
theorem nm8 : Str.ofString "root" ≠ Str.ofString "rest" := by decide +kernel
theorem nm9 : Str.ofString "root" ≠ Str.ofString "word" := by decide +kernel
theorem nm10 : Str.ofString "rest" ≠ Str.ofString "word" := by decide +kernel
theorem mf5_a {p st ro re wo : Str} {M : Str → Option Value} {u1 u2 u5 : Option Value} {r s : Value} {v1 v2 : Option Value} (n1 : p ≠ st) (n2 : p ≠ ro) (n3 : p ≠ re) (n4 : p ≠ wo) (n5 : st ≠ ro) (n6 : st ≠ re) (n7 : st ≠ wo) (n8 : ro ≠ re) (n9 : ro ≠ wo) (n10 : re ≠ wo) :
    (fun y => if y = re then v2 else if y = wo then v1 else (if y = p then u5 else if y = st then some s else if y = ro then some r else if y = re then u2 else if y = wo then u1 else M y)) =
    fun z => if z = p then u5 else if z = st then some s else if z = ro then some r else if z = re then v2 else if z = wo then v1 else M z := by
  funext z
  by_cases h1 : z = p
  · subst h1; simp [n3, n4]
  · by_cases h2 : z = st
    · subst h2; simp [h1, n6, n7]
    · by_cases h3 : z = ro
      · subst h3; simp [h1, h2, n8, n9]
      · by_cases h4 : z = re
        · subst h4; simp [h1, h2, h3]
        · by_cases h5 : z = wo
          · subst h5; simp [h1, h2, h3, h4]
          · simp [h1, h2, h3, h4, h5]
theorem mf5_b {p st ro re wo : Str} {M : Str → Option Value} {u1 u2 u5 : Option Value} {r s : Value} {v1 v2 : Option Value} {r' s' : Value} (n1 : p ≠ st) (n2 : p ≠ ro) (n3 : p ≠ re) (n4 : p ≠ wo) (n5 : st ≠ ro) (n6 : st ≠ re) (n7 : st ≠ wo) (n8 : ro ≠ re) (n9 : ro ≠ wo) (n10 : re ≠ wo) :
    (fun y => if y = ro then some r' else if y = st then some s' else if y = re then v2 else if y = wo then v1 else (if y = p then u5 else if y = st then some s else if y = ro then some r else if y = re then u2 else if y = wo then u1 else M y)) =
    fun z => if z = p then u5 else if z = st then some s' else if z = ro then some r' else if z = re then v2 else if z = wo then v1 else M z := by
  funext z
  by_cases h1 : z = p
  · subst h1; simp [n1, n2, n3, n4]
  · by_cases h2 : z = st
    · subst h2; simp [h1, n5]
    · by_cases h3 : z = ro
      · subst h3; simp [h1, h2]
      · by_cases h4 : z = re
        · subst h4; simp [h1, h2, h3]
        · by_cases h5 : z = wo
          · subst h5; simp [h1, h2, h3, h4]
          · simp [h1, h2, h3, h4, h5]
theorem mf5_c {p st ro re wo : Str} {M : Str → Option Value} {u1 u2 u5 : Option Value} {r s : Value} {v5 : Option Value} {s' : Value} (n1 : p ≠ st) :
    mf2 p st (fun y => if y = p then u5 else if y = st then some s else if y = ro then some r else if y = re then u2 else if y = wo then u1 else M y) v5 (some s') =
    fun z => if z = p then v5 else if z = st then some s' else if z = ro then some r else if z = re then u2 else if z = wo then u1 else M z := by
  funext z
  by_cases h1 : z = p
  · subst h1; simp [mf2]
  · by_cases h2 : z = st
    · subst h2; simp [mf2, h1]
    · simp [mf2, h1, h2]
theorem mf5_start {p st ro re wo : Str} {M : Str → Option Value} {r s : Value} (hr : M ro = some r) (hs : M st = some s) : M = fun z => if z = p then M p else if z = st then some s else if z = ro then some r else if z = re then M re else if z = wo then M wo else M z := by
  funext z
  by_cases h1 : z = p
  · subst h1; simp
  · by_cases h2 : z = st
    · subst h2; simp [h1, hs]
    · by_cases h3 : z = ro
      · subst h3; simp [h1, h2, hr]
      · by_cases h4 : z = re
        · subst h4; simp [h1, h2, h3]
        · by_cases h5 : z = wo
          · subst h5; simp [h1, h2, h3, h4]
          · simp [h1, h2, h3, h4, h5]
section
variable {prog : Program} {w : World} {A : Around} {E : Value → Shared → Prop} {env : Env} {Q : Flow → Shared → Prop} {s : Shared}
theorem execs_split (env : Env) : ∀ (xs ys : List Stmt), execs (xs ++ ys) env = execs xs env >>= fun f => match f with | .next => execs ys env | f => pure f
  | [], ys => by simp [execs]
  | x :: xs, ys => by
    rw [List.cons_append, execs_cons, execs_cons, bind_assoc]
    congr 1
    funext f
    cases f with
    | next => exact execs_split env xs ys
    | _ => simp
theorem execs_mid {xs ys : List Stmt} (Mid : Shared → Shared → Prop) (h1 : wpAny (model prog w) A (execs xs env) (fun f s' => f = .next ∧ Mid s s') E s) (h2 : ∀ s', Mid s s' → wpAny (model prog w) A (execs ys env) Q E s') :
    wpAny (model prog w) A (execs (xs ++ ys) env) Q E s := by
  rw [execs_split]
  refine wpAny_bind (wpAny_mono h1 (fun f s' h => ?_) fun _ _ e => e)
  obtain ⟨rfl, hm⟩ := h
  exact h2 s' hm
end
def pcs1 (sk : List Str) (p : Str) : List Str := if p = Str.ofString ".." then sk.dropLast else if p = Str.ofString "" ∨ p = Str.ofString "." then sk else sk ++ [p]
abbrev lst (y : Str) : Str := Txt.lstripChars y (Str.ofString "/")
def rt1 (r y : Str) : Str := if (lst y != y) = true then (if (y.length : Int) - ((lst y).length : Int) = 2 then Str.ofString "//" else Str.ofString "/") else r
def sk0 (sk : List Str) (y : Str) : List Str := if (lst y != y) = true then [] else sk
def sk1 (sk : List Str) (y : Str) : List Str := (Txt.split (lst y) (Str.ofString "/")).foldl pcs1 (sk0 sk y)
def plStep (a : Str × List Str × List Str) (y : Str) : Str × List Str × List Str := (rt1 a.1 y, sk1 a.2.1 y, a.2.2 ++ [rt1 a.1 y ++ Txt.join (Str.ofString "/") (sk1 a.2.1 y)])
theorem wt_pcs1 (sk : List Str) (p : Str) : wt (pcs1 sk p) ≤ wt sk + (p.length + 64) := by
  unfold pcs1
  split
  · have := wt_dropLast sk; omega
  · split
    · omega
    · rw [wt_append, wt_cons]; have : wt [] = 0 := rfl; omega
theorem wt_pfold : ∀ (l acc : List Str), wt (l.foldl pcs1 acc) ≤ wt acc + wt l
  | [], acc => by have : wt [] = 0 := rfl; simp only [List.foldl_nil]; omega
  | c :: l, acc => by
    rw [List.foldl_cons]
    have h1 := wt_pfold l (pcs1 acc c)
    have h2 := wt_pcs1 acc c
    rw [wt_cons]
    omega
theorem wt_split (x : Str) : wt (Txt.split x (Str.ofString "/")) ≤ x.length + (x.length + 2) * 64 := by
  have h2 := split_sum_len x (Str.ofString "/")
  have h3 := split_count x (Str.ofString "/")
  unfold wt
  omega
theorem lst_len (y : Str) : (lst y).length ≤ y.length := len_lstripChars y _
theorem wt_sk0 (sk : List Str) (y : Str) : wt (sk0 sk y) ≤ wt sk := by
  unfold sk0
  split
  · exact Nat.zero_le _
  · exact Nat.le_refl _
theorem wt_sk1 (sk : List Str) (y : Str) (h : y.length ≤ 100) : wt (sk1 sk y) ≤ wt sk + 7000 := by
  have h1 := wt_pfold (Txt.split (lst y) (Str.ofString "/")) (sk0 sk y)
  have h2 := wt_split (lst y)
  have h3 := lst_len y
  have h4 := wt_sk0 sk y
  unfold sk1
  omega
theorem rt1_len (r y : Str) (h : r.length ≤ 2) : (rt1 r y).length ≤ 2 := by
  unfold rt1
  split
  · split <;> decide +kernel
  · exact h
theorem len_wt (l : List Str) : l.length * 64 ≤ wt l := by unfold wt; omega
theorem strs_length {vs : List Value} {xs : List Str} (h : StrsAre vs xs) : vs.length = xs.length := StrsAre.length h
theorem News.swap {h : Heap} {L : Addr} {a b : Addr × Obj} {l : List (Addr × Obj)} {H : Heap} (N : News h L H (a :: b :: l)) : News h L H (b :: a :: l) := fun p hp => N p (by
  rcases List.mem_cons.mp hp with rfl | hp
  · exact .tail _ (.head _)
  · rcases List.mem_cons.mp hp with rfl | hp
    · exact .head _
    · exact .tail _ (.tail _ hp))
abbrev rStrs (news : List (Addr × Obj)) (zs : List Str) : (Value → Shared → Prop) → Heap → Addr → (Str → Option Value) → Shared → Prop :=
  fun Q h₀ L m s => ∀ (D : Addr) (ws : List Value) (n : Nat) (h' : Heap) (tk' : Nat), StrsAre ws zs → Fr h₀ L h' m → News h₀ L h' ((D, listOf ws.toArray n) :: news) → (∀ q ∈ news, q.1 < D) → Q (.ref D) { s with heap := h', toks := tk' }
section
variable {prog : Program} {w : World} {A : Around} {E : Value → Shared → Prop} {s : Shared} {h₀ : Heap} {L : Addr} {m : Str → Option Value} {news : List (Addr × Obj)}
theorem slice_G {value slice : Expr} {a : Addr} {ws zs : List Value} {n : Nat} {vl vu : Value} {lo hi : Option Int} {Q : Value → Shared → Prop}
    (F : Fr h₀ L s.heap m) (N : News h₀ L s.heap news) (hm : (a, listOf ws.toArray n) ∈ news) (pl : IsPart vl lo) (pu : IsPart vu hi) (e : slicePick ws.toArray lo hi none = zs.toArray) (hz : ws.length ≤ sizeLine)
    (h : ∀ (D : Addr) h', Fr h₀ L h' m → News h₀ L h' ((D, listOf zs.toArray 0) :: news) → (∀ p ∈ news, p.1 < D) → Q (.ref D) { s with heap := h' })
    (hs : subscripted slice false (.ref a) (.ref s.heap.objs.size) = operate [.ref s.heap.objs.size, .ref a] (getItem (.ref a) (.ref s.heap.objs.size)) := by with_unfolding_all rfl)
    (ht : ∀ r, letTemporaryGo value (.ref a) r = pure () := by intro _; with_unfolding_all rfl) :
    wpAny (model prog w) A (subscriptTail value slice (.ref a) (.ref s.heap.objs.size)) Q E { s with heap := s.heap.push { cls := .type "slice", data := .fields #[vl, vu, .none] } } :=
  slice_list F N ⟨_, (N _ hm).1, rfl, n, rfl⟩ pl pu (fun h' F' N' => h _ h' F' (by rw [e] at N'; exact N') fun p hp => Nat.lt_succ_of_lt (Heap.lt_size (N p hp).1)) hs ht (by rw [List.size_toArray]; exact hz)
theorem concat_G {a b : Addr} {ws zs : List Value} {n k : Nat} {Q : Value → Shared → Prop} (F : Fr h₀ L s.heap m) (N : News h₀ L s.heap news) (ha : (a, listOf ws.toArray n) ∈ news) (hb : (b, listOf zs.toArray k) ∈ news) (hz : ws.length + zs.length ≤ sizeLine)
    (h : ∀ (D : Addr) h', Fr h₀ L h' m → News h₀ L h' ((D, listOf (ws ++ zs).toArray 0) :: news) → (∀ p ∈ news, p.1 < D) → Q (.ref D) { s with heap := h' }) :
    wpAny (model prog w) A (binaryOp .Add (.ref a) (.ref b)) Q E s :=
  add_arrays F N ⟨_, (N _ ha).1, rfl, n, rfl⟩ ⟨_, (N _ hb).1, rfl, k, rfl⟩ (fun h' F' N' => h _ h' F' (by simpa using N') fun p hp => Heap.lt_size (N p hp).1) (by rw [List.size_toArray, List.size_toArray]; exact hz)
end
theorem pick_last (ws : List Value) : slicePick ws.toArray none (some (-1)) none = ws.dropLast.toArray := by
  have h := slicePick_butLast ws.toArray 1 (Nat.le_refl 1)
  rw [show (-((1 : Nat) : Int)) = -1 from rfl] at h
  rw [h, List.size_toArray, List.dropLast_eq_take]
theorem dropLast_strs {sv : List Value} {sk : List Str} (h : StrsAre sv sk) : StrsAre sv.dropLast sk.dropLast := by
  rcases strsAre_last h with ⟨rfl, rfl⟩ | ⟨vs', z, t, xs', rfl, rfl, h'⟩
  · exact .nil
  · simpa using h'
theorem lines_50 : True := by
  k_with "subscriptTail Name Slice ref ref" => ((k_here; (refine' slice_G ?k1 ?k2 ?k3 .none (.int (-1) _) (pick_last _) ?kz ?_; (case k1 => k_asm); (case k2 => k_asm); (case k3 => k_mem); (case kz => (rw [PySem.sizeLine_eq]; omega)); k_whole); (intro _ _ _ _ l1); (try k_lt l1); (try k_sweep)); (try (revert l1; intro _)))
  k_with "binaryOp Add ref ref" => ((k_here; (refine' concat_G (zs := [_]) ?k1 ?k2 ?k3 ?k4 ?kz ?_; (case k1 => k_asm); (case k2 => k_asm); (case k3 => k_mem); (case k4 => k_mem); (case kz => (rw [PySem.sizeLine_eq]; simp only [List.length_cons, List.length_nil]; omega)); k_whole); (intro _ _ _ _ l1); (try k_lt l1); (try k_sweep)); (try (revert l1; intro _)))
  trivial
theorem allLt_lt {d : Nat} : ∀ {l : List (Addr × Obj)}, AllLt d l → ∀ p ∈ l, p.1 < d
  | [], _, _, h => nomatch h
  | q :: l, ⟨h1, h2⟩, p, hp => by
    rcases List.mem_cons.mp hp with rfl | hp
    · exact h1
    · exact allLt_lt h2 p hp
abbrev mp (Pl : Addr) (m1 : Str → Option Value) : Str → Option Value := fun y => if y = Str.ofString "places" then some (.ref Pl) else m1 y
theorem start_hide {g h : Heap} {L S0 Pl Wd : Addr} {m : Str → Option Value} {t1 t2 : Tok} {tp : Addr × Obj} {ow : Obj} {news : List (Addr × Obj)} {tgt : Prop} (F : Fr g L h m) (N : News g L h (tp :: (Pl, listOf #[.str (Str.ofString "/") t1] 0) :: (S0, listOf #[] 0) :: (Wd, ow) :: news)) (hr : m (Str.ofString "root") = some (.str (Str.ofString "/") t2)) (hs : m (Str.ofString "stack") = some (.ref S0)) (hp : m (Str.ofString "places") = some (.ref Pl))
    (k : ∀ (m1 : Str → Option Value) (t1 t2 : Tok), Fr g L h (fun y => if y = Str.ofString "places" then some (.ref Pl) else m1 y) → News g L h ((S0, listOf ([] : List Value).toArray 0) :: (Pl, listOf [Value.str (Str.ofString "/") t1].toArray 0) :: (Wd, ow) :: news) → m1 (Str.ofString "root") = some (.str (Str.ofString "/") t2) → m1 (Str.ofString "stack") = some (.ref S0) → tgt) : tgt := by
  have e : m = fun y => if y = Str.ofString "places" then some (.ref Pl) else m y := by
    funext y
    by_cases h : y = Str.ofString "places"
    · rw [if_pos h, h]; exact hp
    · rw [if_neg h]
  exact k m t1 t2 (Eq.mp (congrArg (Fr g L h) e) F) (News.swap (fun p hp => N p (.tail _ hp))) hr hs
theorem pm1 : Str.ofString "root" ≠ Str.ofString "places" := by decide +kernel
theorem pm2 : Str.ofString "stack" ≠ Str.ofString "places" := by decide +kernel
theorem pm3 : Str.ofString "places" ≠ Str.ofString "root" := by decide +kernel
theorem pm4 : Str.ofString "places" ≠ Str.ofString "stack" := by decide +kernel
/-- a word is looked at: the root, the stack it starts from -/
def PMid {g h : Heap} {L : Addr} {m : Str → Option Value} (_ : Fr g L h m) (m₀ : Str → Option Value) (y r : Str) (sk : List Str) (I Pl Wd : Addr) (o op ow : Obj) (news : List (Addr × Obj)) (u1 u5 : Option Value) (s s' : Shared) : Prop :=
  ∃ (St : Addr) (sv : List Value) (sn : Nat) (tr tr2 : Tok) (h' : Heap) (tk' : Nat) (R : Str), s' = { s with heap := h', toks := tk' } ∧ R = rt1 r y ∧ StrsAre sv (sk0 sk y) ∧ (@Ne Nat St I) ∧ (@Ne Nat St Pl) ∧
    Fr g L h' (mf5 m₀ u1 (some (.str (lst y) tr2)) u5 (.str R tr) (.ref St)) ∧ News g L h' ((St, listOf sv.toArray sn) :: (I, o) :: (Pl, op) :: (Wd, ow) :: news)
theorem mformP {a b : Str} {M : Str → Option Value} {u v u' : Option Value} : (fun y => if y = a then u' else mf2 a b M u v y) = mf2 a b M u' v := by
  funext z
  by_cases h1 : z = a
  · subst h1; simp [mf2]
  · simp [mf2, h1]
theorem mform2b {a b : Str} {M : Str → Option Value} {u v u' v' : Option Value} (e : a ≠ b) : (fun y => if y = b then v' else if y = a then u' else mf2 a b M u v y) = mf2 a b M u' v' := mform2 e
theorem mf5_self {m₀ : Str → Option Value} {u1 u2 u5 : Option Value} {r st : Value} : mf5 m₀ u1 u2 u5 r st = mf2 (Str.ofString "piece") (Str.ofString "stack") (mf5 m₀ u1 u2 u5 r st) u5 (some st) := by
  funext z
  by_cases h1 : z = Str.ofString "piece"
  · simp [mf2, mf5, h1]
  · by_cases h2 : z = Str.ofString "stack"
    · simp only [mf2, mf5]; rw [if_neg h1, if_pos h2, if_neg h1, if_pos h2]
    · simp [mf2, mf5, h1, h2]
theorem lines_51 : True := by
  k_with "MY steps" => repeat' (first | (k_unfold; (try dsimp only)) | walk1 | (dsimp only; walk1) | (leave1; try dsimp only) | (k_end; wrow_close))
  trivial
theorem pl_C (w : World) (mean : ExcName → Option Value) (mg mb : Str → Option Value) (news : List (Addr × Obj)) (Wd : Addr) (vs : List Value) (n : Nat) (xs : List Str) (hv : StrsAre vs xs) (hN : ∀ q ∈ news, q.1 < Wd) (hxl : xs.length ≤ 9) (hxe : ∀ y ∈ xs, y.length ≤ 100) :
    TClaim w mean mg mb ((Wd, listOf vs.toArray n) :: news) 881 5 [.ref Wd] (rStrs ((Wd, listOf vs.toArray n) :: news) (xs.foldl plStep (Str.ofString "/", [], [Str.ofString "/"])).2.2) := by
  dsimp only [TClaim]
  intros
  rename_i hret
  refine wpAny_call ?_
  k_dflt (walk_at "MY enter")
  k_steps
  refine ⟨?_⟩
  k_dflt (refine (For_turns (by k_asm) ?_))
  k_steps
  rename_i S0 _ lo0 Pl _ lo1 Tp _ lo2 _ _ _ _ F₀ N₀
  refine start_hide F₀ N₀ (if_pos rfl) ((if_neg nm5).trans (if_pos rfl)) ((if_neg pm3).trans ((if_neg pm4).trans (if_pos rfl))) (fun m₁ tB tA F₁ N₁ hroot hstack => ?_)
  have e1 : @LT.lt Nat _ Wd Pl := lo1.2.1
  have e2 : ∀ q ∈ news, q.1 < Pl := allLt_lt lo1.2.2
  have e3 : @Ne Nat S0 Pl := Nat.ne_of_lt lo1.1
  clear F₀ N₀
  with_unfolding_all refine' for_items (fun I pre m nw => ∃ (St : Addr) (sv : List Value) (sn : Nat) (sk ps : List Str) (pv : List Value) (pn : Nat) (r : Str) (tr : Tok) (u1 u2 u5 : Option Value), (r, sk, ps) = pre.foldl plStep (Str.ofString "/", [], [Str.ofString "/"]) ∧ m = mf5 (mp Pl m₁) u1 u2 u5 (.str r tr) (.ref St) ∧ nw = (St, listOf sv.toArray sn) :: (Pl, listOf pv.toArray pn) :: (Wd, listOf vs.toArray n) :: news ∧ StrsAre sv sk ∧ StrsAre pv ps ∧ (@Ne Nat St I) ∧ (@Ne Nat St Pl) ∧ wt sk ≤ pre.length * 7000 ∧ r.length ≤ 2 ∧ ps.length = pre.length + 1) ?hh F₁ N₁ (.tail _ (.tail _ (.head _))) hv ?turn ?done ?h0
  case hh => with_unfolding_all rfl
  case h0 => exact fun I hI => ⟨S0, [], 0, [], [Str.ofString "/"], _, 0, Str.ofString "/", _, _, _, _, rfl, mf5_start ((if_neg pm1).trans hroot) ((if_neg pm2).trans hstack), rfl, .nil, .cons _ _ .nil, Nat.ne_of_lt (hI _ (.head _)), e3, Nat.zero_le _, by decide +kernel, rfl⟩
  case done =>
    rintro I m nw h tk hI ⟨St, sv, sn, sk, ps, pv, pn, r, tr, u1, u2, u5, e, rfl, rfl, hsv, hpv, d1, d2, d6, d7, d8⟩ F N
    refine (?_ : wpAny _ _ _ _ _ _)
    walk_at "MY steps"
    rw [← e] at hret
    refine hret _ _ _ _ _ hpv (by k_asm) (cb_drop (by assumption) (by kcj_all)) ?_
    intro q hq
    rcases List.mem_cons.mp hq with rfl | hq
    · exact e1
    · exact e2 q hq
  case turn =>
    rintro I o pre y t rs m nw h tk hI hxs ⟨St, sv, sn, sk, ps, pv, pn, r, tr, u1, u2, u5, e0, rfl, rfl, hsv, hpv, d1, d2, d6, d7, d8⟩ F N
    have d3 : @Ne Nat Pl I := Nat.ne_of_lt (hI _ (.tail _ (.head _)))
    have d4 : @Ne Nat Wd I := Nat.ne_of_lt (hI _ (.tail _ (.tail _ (.head _))))
    have d5 : @Ne Nat Wd Pl := Nat.ne_of_lt e1
    have d9 : ∀ q ∈ news, q.1 < I := fun q hq => hI q (.tail _ (.tail _ (.tail _ hq)))
    have hpl1 : pre.length ≤ 8 := by
      have := congrArg List.length hxs
      rw [List.length_append, List.length_cons] at this
      omega
    have hy : y.length ≤ 100 := hxe y (by rw [hxs]; simp)
    refine (?_ : wpAny _ _ _ _ _ _)
    k_fold
    (walk_at "assign Name")
    (walk_at "storeName")
    k_unfold
    (try dsimp only)
    refine execs_mid (xs := [_, _]) (ys := [_, _]) (PMid F (mp Pl m₁) y r sk I Pl Wd o (listOf pv.toArray pn) (listOf vs.toArray n) news (some (.str y t)) u5) ?_ ?_
    · refine (?_ : wpAny _ _ _ _ _ _)
      k_fold
      k_steps
      · have hr : Str.ofString "//" = rt1 r y := by unfold rt1; rw [if_pos (by assumption), if_pos (by assumption)]
        have hk : sk0 sk y = [] := by unfold sk0; rw [if_pos (by assumption)]
        have F9 := (by assumption : Fr _ _ _ _)
        have F10 := Eq.mp (congrArg (Fr _ _ _) (mf5_b (p := Str.ofString "piece") nm1 nm2 nm3 nm4 nm5 nm6 nm7 nm8 nm9 nm10)) F9
        refine ⟨_, [], 0, _, _, _, _, _, rfl, hr, by rw [hk]; exact .nil, ?c1, ?c2, F10, ?N1⟩
        case N1 => exact cb_drop (by assumption) (by kcj_all)
        all_goals omega
      · have hr : Str.ofString "/" = rt1 r y := by unfold rt1; rw [if_pos (by assumption), if_neg (by assumption)]
        have hk : sk0 sk y = [] := by unfold sk0; rw [if_pos (by assumption)]
        have F9 := (by assumption : Fr _ _ _ _)
        have F10 := Eq.mp (congrArg (Fr _ _ _) (mf5_b (p := Str.ofString "piece") nm1 nm2 nm3 nm4 nm5 nm6 nm7 nm8 nm9 nm10)) F9
        refine ⟨_, [], 0, _, _, _, _, _, rfl, hr, by rw [hk]; exact .nil, ?c3, ?c4, F10, ?N2⟩
        case N2 => exact cb_drop (by assumption) (by kcj_all)
        all_goals omega
      · have hb : ¬ ((lst y != y) = true) := by rw [(by assumption : (lst y != y) = false)]; exact Bool.false_ne_true
        have hr : r = rt1 r y := by unfold rt1; rw [if_neg hb]
        have hk : sk0 sk y = sk := by unfold sk0; rw [if_neg hb]
        have F9 := (by assumption : Fr _ _ _ _)
        have F10 := Eq.mp (congrArg (Fr _ _ _) (mf5_a nm1 nm2 nm3 nm4 nm5 nm6 nm7 nm8 nm9 nm10)) F9
        refine ⟨_, sv, sn, _, _, _, _, _, rfl, hr, by rw [hk]; exact hsv, d1, d2, F10, ?N3⟩
        case N3 => exact cb_drop (by assumption) (by kcj_all)
    · rintro s' ⟨St', sv', sn', tr', tr2, h2, tk2, R, rfl, hR, hsv', e1, e2, F2, N2⟩
      have hly : (lst y).length ≤ 100 := Nat.le_trans (lst_len y) hy
      have hsv3 : sv'.length ≤ 1000 := by
        have a1 := strs_length hsv'
        have a2 := len_wt (sk0 sk y)
        have a3 := wt_sk0 sk y
        omega
      refine (?_ : wpAny _ _ _ _ _ _)
      k_fold
      k_steps
      refine ⟨?_⟩
      k_dflt (refine (For_turns (by k_asm) ?_))
      k_steps
      rename_i Sp lc _ _ ee aa F3 N3 lo3
      have hcount : (List.map (fun x => x.1) lc).length ≤ 150 := by
        rw [ee]
        have := split_count (lst y) (Str.ofString "/")
        omega
      replace N3 := News.swap N3
      with_unfolding_all refine' for_items (fun I2 pre2 m nw => ∃ (St2 : Addr) (sv2 : List Value) (sn2 : Nat) (v5 : Option Value), StrsAre sv2 (pre2.foldl pcs1 (sk0 sk y)) ∧ sv2.length ≤ sv'.length + pre2.length ∧ (@Ne Nat St2 I2) ∧ (@Ne Nat St2 I) ∧ (@Ne Nat St2 Pl) ∧
        m = mf2 (Str.ofString "piece") (Str.ofString "stack") (mf5 (mp Pl m₁) (some (.str y t)) (some (.str (lst y) tr2)) u5 (.str R tr') (.ref St')) v5 (some (.ref St2)) ∧
        nw = (St2, listOf sv2.toArray sn2) :: (Sp, listOf (strValues lc).toArray 0) :: (I, o) :: (Pl, listOf pv.toArray pn) :: (Wd, listOf vs.toArray n) :: news) ?hh F3 N3 (.tail _ (.head _)) aa ?turn ?done ?h0
      case hh => with_unfolding_all rfl
      case h0 => exact fun I2 hI2 => ⟨St', sv', sn', _, hsv', by simp, Nat.ne_of_lt (hI2 _ (.head _)), e1, e2, mf5_self, rfl⟩
      case turn =>
        rintro I2 o2 pre2 z tz rs2 m nw h3 tk3 hI2 hx2 ⟨St2, sv2, sn2, v5, hs2, hl2, q1, q2, q3, rfl, rfl⟩ F4 N4
        have i1 : @LT.lt Nat _ Sp I2 := hI2 _ (.tail _ (.head _))
        have i2 : @LT.lt Nat _ I I2 := hI2 _ (.tail _ (.tail _ (.head _)))
        have i3 : @LT.lt Nat _ Pl I2 := hI2 _ (.tail _ (.tail _ (.tail _ (.head _))))
        have i4 : @LT.lt Nat _ Wd I2 := hI2 _ (.tail _ (.tail _ (.tail _ (.tail _ (.head _)))))
        have i5 : ∀ q ∈ news, q.1 < I2 := fun q hq => hI2 _ (.tail _ (.tail _ (.tail _ (.tail _ (.tail _ hq)))))
        have hpl : pre2.length < 200 := by
          have := congrArg List.length hx2
          rw [List.length_append, List.length_cons] at this
          have h4 := hcount
          omega
        have hsz : sv2.length ≤ 10000 := by omega
        have hoff : ∀ (St3 : Addr) (o3 : Obj), @Ne Nat St3 I2 → ∀ p ∈ (St3, o3) :: (Sp, listOf (strValues lc).toArray 0) :: (I, o) :: (Pl, listOf pv.toArray pn) :: (Wd, listOf vs.toArray n) :: news, ∀ q ∈ [(I2, o2)], p.1 ≠ q.1 := by
          intro St3 o3 h3 p hp q hq
          rw [List.mem_singleton.mp hq]
          rcases List.mem_cons.mp hp with rfl | hp
          · exact h3
          · rcases List.mem_cons.mp hp with rfl | hp
            · exact Nat.ne_of_lt i1
            · rcases List.mem_cons.mp hp with rfl | hp
              · exact Nat.ne_of_lt i2
              · rcases List.mem_cons.mp hp with rfl | hp
                · exact Nat.ne_of_lt i3
                · rcases List.mem_cons.mp hp with rfl | hp
                  · exact Nat.ne_of_lt i4
                  · exact Nat.ne_of_lt (i5 p hp)
        clear F3 N3
        refine (?_ : wpAny _ _ _ _ _ _)
        k_fold
        walk_at "MY steps"
        · have hz : pcs1 (pre2.foldl pcs1 (sk0 sk y)) z = (pre2.foldl pcs1 (sk0 sk y)).dropLast := by unfold pcs1; rw [if_pos (eq_of_beq (by assumption))]
          refine tend (its := [(I2, o2)]) (by assumption) (cb_drop (by assumption) (by kcj_all)) (hoff _ _ ?a1) ⟨.tail _ (.head _), _, sv2.dropLast, 0, _, ?a2, ?a3, ?a1, ?a4, ?a5, mform2b nm1, rfl⟩
          case a2 => rw [List.foldl_append]; show StrsAre _ (pcs1 _ z); rw [hz]; exact dropLast_strs hs2
          case a3 => rw [List.length_dropLast, List.length_append]; omega
          all_goals omega
        · have hz : pcs1 (pre2.foldl pcs1 (sk0 sk y)) z = pre2.foldl pcs1 (sk0 sk y) := by
            have hn : ¬ z = Str.ofString ".." := fun e => by have := (by assumption : (z == Str.ofString "..") = false); rw [e] at this; simp at this
            have hm := (by assumption : ([Str.ofString "", Str.ofString "."].any fun x => x == z) = true)
            unfold pcs1
            rw [if_neg hn, if_pos]
            simp only [List.any_cons, List.any_nil, Bool.or_false, Bool.or_eq_true, beq_iff_eq] at hm
            rcases hm with h | h
            · exact .inl h.symm
            · exact .inr h.symm
          refine tend (its := [(I2, o2)]) (by assumption) (cb_drop (by assumption) (by kcj_all)) (hoff _ _ q1) ⟨.tail _ (.head _), St2, sv2, sn2, _, ?b2, ?b3, q1, q2, q3, mformP , rfl⟩
          case b2 => rw [List.foldl_append]; show StrsAre _ (pcs1 _ z); rw [hz]; exact hs2
          case b3 => rw [List.length_append]; omega
        · have hz : pcs1 (pre2.foldl pcs1 (sk0 sk y)) z = pre2.foldl pcs1 (sk0 sk y) ++ [z] := by
            have hn : ¬ z = Str.ofString ".." := fun e => by have := (by assumption : (z == Str.ofString "..") = false); rw [e] at this; simp at this
            have hm := (by assumption : ([Str.ofString "", Str.ofString "."].any fun x => x == z) = false)
            unfold pcs1
            rw [if_neg hn, if_neg]
            rintro (h | h)
            · rw [h] at hm; simp at hm
            · rw [h] at hm; simp at hm
          refine tend (its := [(I2, o2)]) (by assumption) (cb_drop (by assumption) (by kcj_all)) (hoff _ _ ?d1) ⟨.tail _ (.head _), _, sv2 ++ [.str z tz], 0, _, ?d2, ?d3, ?d1, ?d4, ?d5, mform2b nm1, rfl⟩
          case d2 => rw [List.foldl_append]; show StrsAre _ (pcs1 _ z); rw [hz]; exact kct_snoc hs2
          case d3 => rw [List.length_append, List.length_append, List.length_singleton, List.length_singleton]; omega
          all_goals omega
      case done =>
        rintro I2 m nw h3 tk3 hI2 ⟨St2, sv2, sn2, v5, hs2, hl2, q1, q2, q3, rfl, rfl⟩ F4 N4
        have hs3 : StrsAre sv2.toArray.toList (sk1 sk y) := by
          rw [ee] at hs2
          have hs4 : StrsAre sv2 (sk1 sk y) := hs2
          simpa using hs4
        have w1 := wt_sk1 sk y hy
        have w2 : ((sk1 sk y).map (·.length)).sum + (sk1 sk y).length * 64 ≤ 16777216 := by
          have : wt (sk1 sk y) ≤ 16777216 := by omega
          exact this
        have w3 := rt1_len r y d7
        have w4 : R.length + (Txt.join (Str.ofString "/") (sk1 sk y)).length ≤ sizeLine := by
          have := join_len_wt (Str.ofString "/") (by decide +kernel) (sk1 sk y)
          rw [PySem.sizeLine_eq, hR]
          omega
        have w5 : pv.length ≤ 10 := by have := strs_length hpv; omega
        have w6 : pv.length ≤ sizeLine := by rw [PySem.sizeLine_eq]; omega
        have w7 : pv.length < 2 ^ 62 := by omega
        refine (?_ : wpAny _ _ _ _ _ _)
        walk_at "MY steps"
        rename_i t2 k2 hh Fq Nq
        refine tend (its := [(I, o)]) (news' := (St2, listOf sv2.toArray sn2) :: (Pl, listOf (pv ++ [Value.str (R ++ Txt.join (Str.ofString "/") (sk1 sk y)) t2]).toArray (pn + 1)) :: (Wd, listOf vs.toArray n) :: news) (Eq.mp (congrArg (Fr _ _ _) (mf5_c nm1)) Fq) ?nn ?off (And.intro (.tail _ (.tail _ (.head _))) ⟨St2, sv2, sn2, sk1 sk y, ps ++ [R ++ Txt.join (Str.ofString "/") (sk1 sk y)], pv ++ [Value.str (R ++ Txt.join (Str.ofString "/") (sk1 sk y)) t2], pn + 1, R, tr', some (.str y t), some (.str (lst y) tr2), v5, ?st, rfl, rfl, ?s1, ?s2, q2, q3, ?g1, ?g2, ?g3⟩)
        case nn => exact cb_drop (by assumption) (by kcj_all)
        case st => rw [List.foldl_append, ← e0, hR]; exact rfl
        case s1 => rw [ee] at hs2; exact hs2
        case s2 => exact kct_snoc hpv
        case g1 => rw [List.length_append, List.length_singleton]; omega
        case g2 => rw [hR]; exact w3
        case g3 => rw [List.length_append, List.length_append, List.length_singleton, List.length_singleton]; omega
        case off =>
          intro p hp q hq
          rw [List.mem_singleton.mp hq]
          rcases List.mem_cons.mp hp with rfl | hp
          · exact q2
          · rcases List.mem_cons.mp hp with rfl | hp
            · exact d3
            · rcases List.mem_cons.mp hp with rfl | hp
              · exact d4
              · exact Nat.ne_of_lt (d9 p hp)
end PL3_

section Q1_
theorem lines_52 : True := by
  k_with_none
  k_with "call builtin:issubclass" => (k_here; (with_reducible show wpAny _ _ (call (Value.builtin "issubclass") [Value.type "str", Value.ref _]) _ _ _); k_dflt (refine' issub_K ?k1 ?k2 ?_; (case k1 => k_asm); (case k2 => k_mem); k_whole); intro _)
  k_with "call builtin:str.split" => ((k_here; (with_reducible show wpAny _ _ (call (Value.builtin "str.split") [Value.str _ _, Value.str (PySem.Str.ofString "/") _]) _ _ _); (refine KSpl.split1 (by k_asm) (by k_asm) (by decide) ?_ (by rw [PySem.sizeLine_eq]; omega)); (intro _ _ _ _ _ _ _ _ l1); (try k_lt l1)); (try (revert l1; intro _)))
  k_with "call builtin:list.append" => (k_here; (with_reducible show wpAny _ _ (call (Value.builtin _) [Value.ref _, _]) _ _ _); k_dflt (refine' append_L ?k1 ?k2 ?k3 ?z ?_; (case k1 => k_asm); (case k2 => k_asm); (case k3 => k_upd); (case z => with_reducible assumption); k_whole); intro _ _ _; (try k_sweep))
  k_with "call builtin:list.pop" => (k_here; k_dflt (refine' pop_snoc ?k1 ?k2 ?k3 ?z ?_; (case k1 => k_asm); (case k2 => k_asm); (case k3 => k_upd); (case z => with_reducible assumption); k_whole); intro _ _ _; (try k_sweep))
  k_with "subscriptTail Name UnaryOp ref int" => (k_here; (with_reducible show wpAny _ _ (subscriptTail _ _ (Value.ref _) (Value.int _ _)) _ _ _); (with_unfolding_all refine' last_snoc ?k1 ?k2 ?_ ?k3 ?k4; (case k1 => k_asm); (case k2 => k_mem); (case k3 => with_unfolding_all rfl); (case k4 => (intro _; with_unfolding_all rfl)); k_whole))
  k_with "truthy ref" => (k_here; (with_reducible show wpAny _ _ (truthy (Value.ref _)) _ _ _); k_dflt (refine' truthy_strs ?k1 ?k2 ?k3 ?k4 ?g0 ?g1; (case k1 => k_asm); (case k2 => k_mem); (case k3 => with_reducible assumption); (case k4 => with_reducible assumption)); (case' g0 => (intro e1 _; subst e1)); (case' g1 => (intro _ _ _ _ e1 _ _; subst e1)))
  k_with "truthy ref" => (k_here; (with_reducible show wpAny _ _ (truthy (Value.ref _)) _ _ _); k_dflt (refine' truthy_snoc ?k1 ?k2 ?k4 ?_; (case k1 => k_asm); (case k2 => k_mem); (case k4 => with_reducible assumption); k_whole))
  k_with "TPost" => (dsimp only [TPost])
  trivial
theorem lines_53 : True := by
  k_with "truthy str" => (k_here; (with_reducible show wpAny _ _ (PySem.truthy (Value.str _ _)) _ _ _); (refine' KXt.truthy_pos ?kxta ?kxtb ?kxtc ?_; (case kxta => with_reducible assumption); (case kxtb => with_reducible assumption); (case kxtc => exact Nat.le_of_ble_eq_true rfl)); intro _)
  k_with "call builtin:str.join" => (k_here; (with_reducible show wpAny _ _ (call (Value.builtin "str.join") [Value.str _ _, Value.ref _]) _ _ _); k_dflt (refine' join_listC ?k1 ?k2 ?k3 ?k4 ?_; (case k1 => exact News.isList (by k_asm) (by k_mem)); (case k2 => with_reducible assumption); (case k3 => decide); (case k4 => with_reducible assumption); k_whole); intro _ _)
  k_with "binaryOp Add str str" => (k_here; (with_reducible show wpAny _ _ (binaryOp Operator.Add (Value.str _ _) (Value.str _ _)) _ _ _); (refine' PyProof.Rows.add_str ?_ ?z; (case z => with_reducible assumption)); intro _ _)
  k_with "MY enter" => (refine' code_def ?k1 ?k2 ?k3 ?k4 ?k5 ?kA ?kF ?kK ?k6 ?k7 ?k8 ?k9 ?kB ?_ ?c2 ?c3 ?c4 ?c5; (case kA => exact rfl); (case kF => exact rfl); (case kK => first | assumption | exact rfl); (case k1 => k_asm); (case k2 => k_asm); (case k3 => k_asm); (case k4 => k_asm); (case k5 => k_asm); (case k6 => k_is); (case k7 => k_is); (case k8 => ktr_room); (case k9 => first | exact BindsTo.of_eq rfl | exact binds_K (by k_in) rfl (by k_is) rfl rfl rfl); (case c5 => decide); (case kB => exact locs rfl); (case c2 => exact rfl); (case c3 => exact rfl); (case c4 => exact rfl); k_whole; intro _ _ _ _ _ _ _ _ _; (try dsimp only); (try k_fold))
  k_with "compareOp Is" => (k_here; (with_reducible show wpAny _ _ (compareOp CmpOp.Is (Value.str _ _) (Value.ref _)) _ _ _); refine wpAny_is_other (by rfl) (by intro x; cases x) ?_)
  trivial
section
variable {prog : Program} {w : World} {A : Around} {E : Value → Shared → Prop} {s : Shared} {Q : Value → Shared → Prop} {h₀ : Heap} {L : Addr} {m : Str → Option Value} {news : List (Addr × Obj)}
theorem find_bad_K {x : Str} {t : Tok} (F : Fr h₀ L s.heap m) (N : News h₀ L s.heap news) (X : (hd.heap_39 w.params).In h₀) (hl2 : x.cps.size ≤ 100000) (hb : ∃ k, k < x.cps.size ∧ badC (x.cps.getD k 0) = true ∧ ∀ i, i < k → safeC (x.cps.getD i 0) = true)
    (h : ∀ a h', Fr h₀ L h' m → News h₀ L h' news → Q (.ref a) { s with heap := h' }) : wpAny (model prog w) A (call (.ref 862) [.str x t]) Q E s := by
  obtain ⟨k, hk, h1, h2⟩ := hb
  exact find_bad (X.keeps F.keep) hl2 k hk h1 h2 fun a o₁ o₂ => h a _ ((F.push _).push _) fun p hp => ⟨Heap.get?_push_of_some _ (Heap.get?_push_of_some _ (N p hp).1), (N p hp).2⟩
theorem find_safe_K {x : Str} {t : Tok} (F : Fr h₀ L s.heap m) (X : (hd.heap_39 w.params).In h₀) (hl : 1 ≤ x.length) (hl2 : x.cps.size ≤ 100000) (hx : ∀ i, i < x.cps.size → safeC (x.cps.getD i 0) = true) (h : Q .none s) :
    wpAny (model prog w) A (call (.ref 862) [.str x t]) Q E s := find_safe (X.keeps F.keep) hl hl2 hx h
end
section
variable {w : World} {M : Model} {A : Around} {E : Value → Shared → Prop} {s : Shared} {env : Env} {pos : Pos} {first : List Value} {Q : Value → Shared → Prop}
theorem keeps_862 (h : Heap) (X : (hd.heap_39 w.params).In h) : ∃ k, (k = Keeper.frame ∨ k = Keeper.machine ∨ k = Keeper.boundFrame) ∧ Looks M h (keeperOf (.ref 862)) k :=
  ⟨.machine, .inr (.inl rfl), (Looks.ld (part := none) (X 862 o862 (by kernel_rfl))).andThen .now⟩
theorem callWith_862 {h₀ : Heap} {e : Expr} {rest : List Expr} (_X : (hd.heap_39 w.params).In h₀) (h : wpAny M A (spliced (backTo pos (starEach (e :: rest) env))) (fun vs s₁ => (hd.heap_39 w.params).In s₁.heap ∧ wpAny M A (call (.ref 862) (first ++ vs)) Q E s₁) E s)
    (he : starEach (e :: rest) env = (false, eval e env) :: starEach rest env := by rfl) (hplain : (backTo pos (starEach rest env)).any (·.1) = false := by rfl) :
    wpAny M A (callWith pos (.ref 862) first (backTo pos (starEach (e :: rest) env)) []) Q E s := by
  rw [he] at h ⊢
  exact callWith_of (P := fun h => (hd.heap_39 w.params).In h) (by show ((false || (backTo pos (starEach rest env)).any (·.1)) || false) = false; rw [hplain]; rfl) keeps_862 (PySem.Calls.evalArgs_plain h)
end
theorem lines_54 : True := by
  k_with "callWith ref" => (k_here; (with_reducible show wpAny _ _ (callWith _ (Value.ref 862) _ _ _) _ _ _); k_dflt (refine' callWith_862 ?k1 ?_; (case k1 => k_asm); k_whole))
  k_with "call ref" => (k_here; (with_reducible show wpAny _ _ (call (Value.ref 862) [Value.str _ _]) _ _ _); k_dflt (first | (refine' find_safe_K ?k1 ?k2 ?k3 ?k4 ?k5 ?_; (case k1 => k_asm); (case k2 => k_asm); (case k3 => with_reducible assumption); (case k4 => with_reducible assumption); (case k5 => with_reducible assumption); k_whole) | (refine' find_bad_K ?k1 ?k2 ?k3 ?k4 ?k5 ?_; (case k1 => k_asm); (case k2 => k_asm); (case k3 => k_asm); (case k4 => with_reducible assumption); (case k5 => with_reducible assumption); k_whole; intro _ _ _ _; (try k_sweep))))
  trivial
theorem quote_safe (w : World) (mean : ExcName → Option Value) (mg mb : Str → Option Value) (news : List (Addr × Obj)) (x : Str) (tx : Tok) (hx : x.length ≤ 100000) (hx2 : x.cps.size ≤ 100000) (h1 : 1 ≤ x.length) (hs : ∀ i, i < x.cps.size → safeC (x.cps.getD i 0) = true) :
    TClaim w mean mg mb news 869 3 [.str x tx] (rText news x) := by
  dsimp only [TClaim]
  intros
  rename_i hret
  refine wpAny_call ?_
  k_dflt (walk_at "MY enter")
  k_steps
  exact hret _ _ _ (by k_asm) (cb_drop (by assumption) (by kcj_all))
theorem quote_empty (w : World) (mean : ExcName → Option Value) (mg mb : Str → Option Value) (news : List (Addr × Obj)) (tx : Tok) :
    TClaim w mean mg mb news 869 3 [.str (Str.ofString "") tx] (rText news (Str.ofString "''")) := by
  dsimp only [TClaim]
  intros
  rename_i hret
  refine wpAny_call ?_
  k_dflt (walk_at "MY enter")
  k_steps
  exact hret _ _ _ (by k_asm) (cb_drop (by assumption) (by kcj_all))
abbrev qrep (x : Str) : Str := Txt.replace x (Str.ofString "'") (Str.ofString "'\"'\"'")
theorem qrep_len (x : Str) : (qrep x).length ≤ 5 * x.length := by
  have e : Str.ofString "'" = ⟨#[39]⟩ := by decide +kernel
  unfold qrep
  rw [e]
  exact replace_len x _ 39 (by decide +kernel)
theorem quote_bad (w : World) (mean : ExcName → Option Value) (mg mb : Str → Option Value) (news : List (Addr × Obj)) (x : Str) (tx : Tok) (hx : x.length ≤ 1000) (hx2 : x.cps.size ≤ 100000) (h1 : 1 ≤ x.length) (hb : ∃ k, k < x.cps.size ∧ badC (x.cps.getD k 0) = true ∧ ∀ i, i < k → safeC (x.cps.getD i 0) = true) :
    TClaim w mean mg mb news 869 3 [.str x tx] (rText news (Str.ofString "'" ++ qrep x ++ Str.ofString "'")) := by
  dsimp only [TClaim]
  intros
  rename_i hret
  have hq := qrep_len x
  have hl : (Str.ofString "'").length = 1 := by decide +kernel
  have hq1 : (Str.ofString "'").length + (Txt.replace x (Str.ofString "'") (Str.ofString "'\"'\"'")).length ≤ sizeLine := by rw [PySem.sizeLine_eq]; show _ + (qrep x).length ≤ _; omega
  have hq2 : (Str.ofString "'" ++ Txt.replace x (Str.ofString "'") (Str.ofString "'\"'\"'")).length + (Str.ofString "'").length ≤ sizeLine := by rw [PySem.sizeLine_eq, Str.length_append]; show _ + (qrep x).length + _ ≤ _; omega
  clear hq hl
  refine wpAny_call ?_
  k_dflt (walk_at "MY enter")
  k_steps
  exact hret _ _ _ (by k_asm) (cb_drop (by assumption) (by kcj_all))
end Q1_

section PW_
abbrev cl (x : Str) : List Nat := x.cps.toList
theorem cl_mk (l : List Nat) : cl (mk l) = l := mk_cps l
theorem cl_inj {x y : Str} (h : cl x = cl y) : x = y := by rw [← mk_toList x, ← mk_toList y]; exact congrArg mk h
theorem cl_app (x y : Str) : cl (x ++ y) = cl x ++ cl y := by simp [cl, Str.cps_append]
theorem cl_len (x : Str) : (cl x).length = x.length := by simp [cl, Str.length]
theorem sl_mk : Str.ofString "/" = mk [47] := by decide +kernel
theorem ss_mk : Str.ofString "//" = mk [47, 47] := by decide +kernel
theorem dd_mk : Str.ofString ".." = mk [46, 46] := by decide +kernel
theorem d_mk : Str.ofString "." = mk [46] := by decide +kernel
theorem e_mk : Str.ofString "" = mk [] := by decide +kernel
theorem eq_cl {x : Str} {l : List Nat} : x = mk l ↔ cl x = l := ⟨fun h => by rw [h, cl_mk], fun h => cl_inj (by rw [h, cl_mk])⟩
theorem beq_cl {x : Str} {l : List Nat} : ((x == mk l) = true) ↔ cl x = l := by rw [beq_iff_eq, eq_cl]
theorem bne_cl {x : Str} {l : List Nat} : ((x != mk l) = true) ↔ cl x ≠ l := by rw [bne_iff_ne, Ne, eq_cl]
open PySem.Builtin PySem.Builtin.Str in
theorem slice_clip (x : Str) (i j : Nat) : Txt.slice x (some (i : Int)) (some (j : Int)) = Txt.slice x (some ((min i x.length : Nat) : Int)) (some ((min j x.length : Nat) : Int)) := by
  show StrLaws.sliceText x _ _ = StrLaws.sliceText x _ _
  have e : strSliceIndices (some (i : Int)) (some (j : Int)) 1 x.length = strSliceIndices (some ((min i x.length : Nat) : Int)) (some ((min j x.length : Nat) : Int)) 1 x.length := by
    have a1 : ¬ (i : Int) < 0 := by omega
    have a2 : ¬ (j : Int) < 0 := by omega
    have a3 : ¬ ((min i x.length : Nat) : Int) < 0 := by omega
    have a4 : ¬ ((min j x.length : Nat) : Int) < 0 := by omega
    have e1 : max (0 : Int) (min (i : Int) (x.length : Int)) = max (0 : Int) (min ((min i x.length : Nat) : Int) (x.length : Int)) := by omega
    have e2 : max (0 : Int) (min (j : Int) (x.length : Int)) = max (0 : Int) (min ((min j x.length : Nat) : Int) (x.length : Int)) := by omega
    simp only [strSliceIndices, a1, a2, a3, a4, if_false, e1, e2, show ((1 : Int) > 0) = True from by simp, if_true]
  unfold StrLaws.sliceText
  rw [e]
theorem cl_slice (x : Str) (i j : Nat) (h : i ≤ j) : cl (Txt.slice x (some (i : Int)) (some (j : Int))) = ((cl x).drop i).take (j - i) := by
  have hl := cl_len x
  rw [slice_clip]
  have e := StrLaws.sliceText_nat x (a := min i x.length) (b := min j x.length) (by omega) (by omega)
  show cl (StrLaws.sliceText x _ _) = _
  rw [e]
  show ((cl x).drop (min i x.length)).take (min j x.length - min i x.length) = _
  rw [← hl]
  by_cases hi : i ≤ (cl x).length
  · by_cases hj : j ≤ (cl x).length
    · rw [Nat.min_eq_left hi, Nat.min_eq_left hj]
    · rw [Nat.min_eq_left hi, Nat.min_eq_right (by omega), List.take_of_length_le (by rw [List.length_drop]; omega), List.take_of_length_le (by rw [List.length_drop]; omega)]
  · rw [List.drop_eq_nil_of_le (i := min i (cl x).length) (by omega), List.drop_eq_nil_of_le (i := i) (by omega)]; simp
open PySem.Builtin PySem.Builtin.Str in
theorem slice_none_lo (x : Str) (u : Option Int) : Txt.slice x none u = Txt.slice x (some ((0 : Nat) : Int)) u := by
  show StrLaws.sliceText x _ _ = StrLaws.sliceText x _ _
  unfold StrLaws.sliceText
  rw [StrLaws.sliceIdx_none_lo]; rfl
open PySem.Builtin PySem.Builtin.Str in
theorem slice_none_hi (x : Str) (l : Option Int) : Txt.slice x l none = Txt.slice x l (some (x.length : Int)) := by
  show StrLaws.sliceText x _ _ = StrLaws.sliceText x _ _
  unfold StrLaws.sliceText
  rw [StrLaws.sliceIdx_none_hi]
theorem cl_to (x : Str) (j : Nat) : cl (Txt.slice x none (some (j : Int))) = (cl x).take j := by
  rw [slice_none_lo, cl_slice x 0 j (by omega)]; rfl
theorem cl_from (x : Str) (i : Nat) : cl (Txt.slice x (some (i : Int)) none) = (cl x).drop i := by
  have hl := cl_len x
  rw [slice_none_hi]
  by_cases h : i ≤ x.length
  · rw [cl_slice x i x.length h]
    exact List.take_of_length_le (by rw [List.length_drop]; omega)
  · rw [slice_clip, Nat.min_eq_right (by omega), cl_slice x _ _ (by omega)]
    rw [List.drop_eq_nil_of_le (by omega), List.drop_eq_nil_of_le (by omega)]; simp
open PySem.Builtin PySem.Builtin.Str in
theorem cl_lst (y : Str) : cl (lst y) = lstL (cl y) := by
  have hl := cl_len y
  have hc : (Str.ofString "/").cps.contains = (fun c : Nat => c == 47) := by
    funext c
    have : (Str.ofString "/").cps = #[47] := by decide +kernel
    rw [this]
    by_cases e : c = 47
    · subst e; simp
    · have e2 : ¬ 47 = c := fun z => e z.symm
      simp [e]
  have key : ∀ (l : List Nat), l.drop (l.takeWhile (· == 47)).length = lstL l := by
    intro l
    have := (List.takeWhile_append_dropWhile (p := (· == 47)) (l := l)).symm
    conv => lhs; arg 2; rw [this]
    exact List.drop_left
  show cl (Txt.stripBy (Str.ofString "/").cps.contains true false y) = _
  rw [hc]
  unfold Txt.stripBy
  split
  · rename_i h
    have h0 : (List.takeWhile (fun c : Nat => c == 47) (cl y)).length = 0 := by
      have := (Bool.and_eq_true _ _ ▸ h).1
      simpa [stripLo] using this
    rw [← key, h0, List.drop_zero]
  · rw [← key]
    show cl (strSub y (List.takeWhile (fun c : Nat => c == 47) (cl y)).length y.length) = _
    rw [cl, StrLaws.strSub_toList]
    exact List.take_of_length_le (by rw [List.length_drop]; have : y.cps.toList.length = y.length := hl; omega)
theorem cl_starts (y : Str) : (Txt.startswith y (Str.ofString "/") = true) ↔ (cl y).head? = some 47 := by
  have h := StrLaws.subAt_one y 47 0
  have e : Str.ofString "/" = ⟨#[47]⟩ := by decide +kernel
  unfold Txt.startswith
  rw [e, Bool.and_eq_true, decide_eq_true_eq, h, List.head?_eq_getElem?]
theorem cl_ends (y : Str) : (Txt.endswith y (Str.ofString "/") = true) ↔ (cl y).getLast? = some 47 := by
  have e : Str.ofString "/" = ⟨#[47]⟩ := by decide +kernel
  have hl := cl_len y
  have h1 : (⟨#[47]⟩ : Str).length = 1 := rfl
  unfold Txt.endswith
  rw [e, Bool.and_eq_true, decide_eq_true_eq, List.getLast?_eq_getElem?, hl, h1]
  by_cases h : 1 ≤ y.length
  · have h2 := StrLaws.subAt_one y 47 (y.length - 1)
    rw [h1] at h2
    rw [← h2]
    constructor
    · rintro ⟨-, b⟩; exact ⟨by omega, b⟩
    · rintro ⟨-, b⟩; exact ⟨by omega, b⟩
  · have h3 : cl y = [] := List.eq_nil_of_length_eq_zero (by omega)
    have : y.cps.toList = [] := h3
    constructor
    · rintro ⟨a, -⟩; omega
    · intro h; rw [h3] at h; simp at h
theorem cl_joinF (x y : Str) : cl (joinF x y) = joinL2 (cl x) (cl y) := by
  unfold joinF joinL2
  by_cases h : Txt.startswith y (Str.ofString "/") = true
  · rw [if_pos h, if_pos ((cl_starts y).mp h)]
  · rw [if_neg h, if_neg (fun e => h ((cl_starts y).mpr e))]
    by_cases h2 : Txt.endswith x (Str.ofString "/") = true
    · rw [if_pos h2, if_pos ((cl_ends x).mp h2), cl_app]
    · rw [if_neg h2, if_neg (fun e => h2 ((cl_ends x).mpr e)), cl_app, cl_app, sl_mk, cl_mk]; rfl
theorem lst_iff (y : Str) : ((lst y != y) = true) ↔ (cl y).head? = some 47 := by
  rw [bne_iff_ne]
  constructor
  · intro h
    by_cases e : (cl y).head? = some 47
    · exact e
    · exact absurd (cl_inj (by rw [cl_lst, lst_same e])) h
  · intro h e
    have := lst_head (cl y)
    rw [← cl_lst, e] at this
    exact this h
theorem cl_rt1 (r y : Str) : cl (rt1 r y) = rtL (cl r) (cl y) := by
  unfold rt1 rtL
  by_cases h : (lst y != y) = true
  · rw [if_pos h, if_pos ((lst_iff y).mp h)]
    have h1 : (y.length : Int) - ((lst y).length : Int) = (((cl y).takeWhile (· == 47)).length : Int) := by
      have a := congrArg List.length (List.takeWhile_append_dropWhile (p := (· == 47)) (l := cl y))
      rw [List.length_append, cl_len] at a
      have b := cl_len (lst y)
      rw [cl_lst] at b
      have c : (lstL (cl y)).length = (List.dropWhile (· == 47) (cl y)).length := rfl
      omega
    rw [h1]
    by_cases h2 : ((cl y).takeWhile (· == 47)).length = 2
    · rw [if_pos (by omega), rtn, if_pos h2, ss_mk, cl_mk]
    · rw [if_neg (by omega), rtn, if_neg h2, sl_mk, cl_mk]
  · rw [if_neg h, if_neg (fun e => h ((lst_iff y).mpr e))]
theorem map_dropLast' {α β : Type} (f : α → β) (l : List α) : (l.dropLast).map f = (l.map f).dropLast := by
  rw [List.map_dropLast]
theorem cl_pcs1 (sk : List Str) (p : Str) : (pcs1 sk p).map cl = stepL (sk.map cl) (cl p) := by
  unfold pcs1 stepL
  rw [dd_mk, d_mk, e_mk]
  by_cases h : p = mk [46, 46]
  · rw [if_pos h, if_pos (eq_cl.mp h), map_dropLast']
  · rw [if_neg h, if_neg (fun e => h (eq_cl.mpr e))]
    by_cases h2 : p = mk [] ∨ p = mk [46]
    · rw [if_pos h2, if_pos (by rwa [eq_cl, eq_cl] at h2)]
    · rw [if_neg h2, if_neg (by rwa [eq_cl, eq_cl] at h2), List.map_append]; rfl
theorem cl_normStep (sk : List Str) (p : Str) : (normStep sk p).map cl = stepL (sk.map cl) (cl p) := by
  have h0 : ((p.length : Int) = 0) ↔ cl p = [] := by
    rw [← cl_len]
    constructor
    · intro h; exact List.eq_nil_of_length_eq_zero (by omega)
    · intro h; rw [h]; rfl
  unfold normStep stepL
  rw [dd_mk, d_mk]
  by_cases h : p = mk [46, 46]
  · have hc := eq_cl.mp h
    rw [if_pos hc, if_neg, if_pos h, map_dropLast']
    rintro (e | e)
    · rw [h0] at e; rw [e] at hc; simp at hc
    · rw [eq_cl] at e; rw [e] at hc; simp at hc
  · rw [if_neg (fun e => h (eq_cl.mpr e))]
    by_cases h2 : (p.length : Int) = 0 ∨ p = mk [46]
    · rw [if_pos h2, if_pos (by rwa [h0, eq_cl] at h2)]
    · rw [if_neg h2, if_neg h, if_neg (by rwa [h0, eq_cl] at h2), List.map_append]; rfl
theorem fold_pcs1 : ∀ (l sk : List Str), (l.foldl pcs1 sk).map cl = (l.map cl).foldl stepL (sk.map cl)
  | [], _ => rfl
  | p :: l, sk => by rw [List.foldl_cons, fold_pcs1 l, cl_pcs1]; rfl
theorem fold_norm : ∀ (l sk : List Str), (l.foldl normStep sk).map cl = (l.map cl).foldl stepL (sk.map cl)
  | [], _ => rfl
  | p :: l, sk => by rw [List.foldl_cons, fold_norm l, cl_normStep]; rfl
theorem split_cl (x : Str) : (Txt.split x (Str.ofString "/")).map cl = splitL 47 (cl x) := by
  have e : Str.ofString "/" = ⟨#[47]⟩ := by decide +kernel
  rw [e]; exact split_list x 47
theorem join_cl (ps : List Str) : cl (Txt.join (Str.ofString "/") ps) = joinL 47 (ps.map cl) := by
  have e : Str.ofString "/" = ⟨#[47]⟩ := by decide +kernel
  show cl (Builtin.Str.glued (Str.ofString "/") ps) = _
  rw [StrLaws.glued_eq_join, e]; exact join_list 47 ps
theorem cl_sk1 (sk : List Str) (y : Str) : (sk1 sk y).map cl = skL (sk.map cl) (cl y) := by
  unfold sk1 skL stkL
  rw [fold_pcs1, split_cl, cl_lst]
  congr 1
  unfold sk0
  by_cases h : (lst y != y) = true
  · rw [if_pos h, if_pos ((lst_iff y).mp h)]; rfl
  · rw [if_neg h, if_neg (fun e => h ((lst_iff y).mpr e))]
theorem norm_mid (z : Str) : cl (Txt.join (Str.ofString "/") ((Txt.split z (Str.ofString "/")).foldl normStep [])) = joinL 47 (stkL (cl z) []) := by
  rw [join_cl, fold_norm, split_cl]; rfl
def St (x r : Str) (sk : List Str) : Prop := StL (cl x) (cl r) (sk.map cl)
theorem St.root {x r : Str} {sk : List Str} (h : St x r sk) : (cl x).take 1 = [47] := by
  obtain ⟨n, b, hn, e, -⟩ := h
  obtain ⟨n, rfl⟩ : ∃ m, n = m + 1 := ⟨n - 1, by omega⟩
  rw [e, List.replicate_succ]; rfl
theorem cl_norm (x : Str) (h : (cl x).take 1 = [47]) : cl (normF x) = normL (cl x) := by
  have a1 : ¬ (Txt.slice x none (some 1) != mk [47]) = true := by rw [bne_cl]; exact fun e => e ((cl_to x 1).trans h)
  have a2 : ((Txt.slice x (some 1) (some 2) != mk [47]) = true) ↔ ((cl x).drop 1).take 1 ≠ [47] := by
    rw [bne_cl]
    have := cl_slice x 1 2 (by omega)
    exact ⟨fun e z => e (this.trans z), fun e z => e (this.symm.trans z)⟩
  have a3 : ((Txt.slice x (some 2) (some 3) == mk [47]) = true) ↔ ((cl x).drop 2).take 1 = [47] := by
    rw [beq_cl]
    have := cl_slice x 2 3 (by omega)
    exact ⟨fun z => this.symm.trans z, fun z => this.trans z⟩
  unfold normF normL
  rw [if_neg (fun e => e h)]
  by_cases b2 : (Txt.slice x (some 1) (some 2) != mk [47]) = true
  · rw [if_pos (a2.mp b2)]
    have r1 : rootOf x = Str.ofString "/" := by unfold rootOf; rw [sl_mk, if_neg a1, if_pos b2]
    have r2 : restOf x = Txt.slice x (some 1) none := by unfold restOf; rw [sl_mk, if_neg a1, if_pos b2]
    rw [r1, r2, cl_app, norm_mid, sl_mk, cl_mk]
    exact congrArg (fun z => [47] ++ joinL 47 (stkL z [])) (cl_from x 1)
  · rw [if_neg (fun e => b2 (a2.mpr e))]
    by_cases b3 : (Txt.slice x (some 2) (some 3) == mk [47]) = true
    · rw [if_pos (a3.mp b3)]
      have r1 : rootOf x = Str.ofString "/" := by unfold rootOf; rw [sl_mk, if_neg a1, if_neg b2, if_pos b3]
      have r2 : restOf x = Txt.slice x (some 1) none := by unfold restOf; rw [sl_mk, if_neg a1, if_neg b2, if_pos b3]
      rw [r1, r2, cl_app, norm_mid, sl_mk, cl_mk]
      exact congrArg (fun z => [47] ++ joinL 47 (stkL z [])) (cl_from x 1)
    · rw [if_neg (fun e => b3 (a3.mpr e))]
      have r1 : rootOf x = Txt.slice x none (some 2) := by unfold rootOf; rw [sl_mk, if_neg a1, if_neg b2, if_neg b3]
      have r2 : restOf x = Txt.slice x (some 2) none := by unfold restOf; rw [sl_mk, if_neg a1, if_neg b2, if_neg b3]
      rw [r1, r2, cl_app, norm_mid]
      have e1 := cl_to x 2
      have e2 := cl_from x 2
      exact (congrArg (fun z => z ++ _) e1).trans (congrArg (fun z => (cl x).take 2 ++ joinL 47 (stkL z [])) e2)
theorem root_len (x : Str) (h : (cl x).take 1 = [47]) : 1 ≤ (rootOf x).length := by
  have a1 : ¬ (Txt.slice x none (some 1) != mk [47]) = true := by rw [bne_cl]; exact fun e => e ((cl_to x 1).trans h)
  unfold rootOf
  rw [sl_mk, if_neg a1]
  split
  · rw [← cl_len, cl_mk]; exact Nat.le_refl _
  · split
    · rw [← cl_len, cl_mk]; exact Nat.le_refl _
    · rw [← cl_len]
      have e1 : cl (Txt.slice x none (some 2)) = (cl x).take 2 := cl_to x 2
      rw [e1]
      cases hx : cl x with
      | nil => rw [hx] at h; simp at h
      | cons a b => simp
theorem St.start : St (Str.ofString "/") (Str.ofString "/") [] := by
  unfold St; rw [sl_mk, cl_mk]; exact st_start
theorem St.join {x r : Str} {sk : List Str} (y : Str) (h : St x r sk) : St (joinF x y) (rt1 r y) (sk1 sk y) := by
  unfold St; rw [cl_joinF, cl_rt1, cl_sk1]; exact st_join (cl y) h
theorem St.norm {x r : Str} {sk : List Str} (h : St x r sk) : normF x = r ++ Txt.join (Str.ofString "/") sk := by
  apply cl_inj
  rw [cl_norm x h.root, cl_app, join_cl]; exact st_norm h
theorem St.again {x r : Str} {sk : List Str} (h : St x r sk) : St (r ++ Txt.join (Str.ofString "/") sk) r sk := by
  unfold St; rw [cl_app, join_cl]; exact st_again h
abbrev fSt (a : Str × List Str) (y : Str) : Str × List Str := (rt1 a.1 y, sk1 a.2 y)
abbrev atP (a : Str × List Str) : Str := a.1 ++ Txt.join (Str.ofString "/") a.2
def pls : Str × List Str → List Str → List Str
  | a, [] => [atP a]
  | a, y :: W => atP a :: pls (fSt a y) W
theorem pl_fold : ∀ (W : List Str) (r : Str) (sk ps : List Str), (W.foldl plStep (r, sk, ps ++ [atP (r, sk)])).2.2 = ps ++ pls (r, sk) W
  | [], _, _, _ => rfl
  | y :: W, r, sk, ps => by
    rw [List.foldl_cons]
    have e : plStep (r, sk, ps ++ [atP (r, sk)]) y = (rt1 r y, sk1 sk y, (ps ++ [atP (r, sk)]) ++ [atP (rt1 r y, sk1 sk y)]) := rfl
    rw [e, pl_fold W, List.append_assoc]; rfl
abbrev a00 : Str × List Str := (Str.ofString "/", [])
def PLACES (W : List Str) : List Str := (W.foldl plStep (Str.ofString "/", [], [Str.ofString "/"])).2.2
theorem places_eq (W : List Str) : PLACES W = pls a00 W := by
  have e : [Str.ofString "/"] = [] ++ [atP a00] := by
    have : atP a00 = Str.ofString "/" := by decide +kernel
    rw [this]; rfl
  unfold PLACES
  rw [e]
  exact pl_fold W _ _ []
theorem pls_len : ∀ (W : List Str) (a : Str × List Str), (pls a W).length = W.length + 1
  | [], _ => rfl
  | y :: W, a => by rw [pls, List.length_cons, pls_len W, List.length_cons]
theorem pls_at : ∀ (W : List Str) (a : Str × List Str) (k : Nat), k ≤ W.length → (pls a W)[k]? = some (atP ((W.take k).foldl fSt a))
  | [], a, 0, _ => rfl
  | [], _, k + 1, h => absurd h (by simp)
  | y :: W, a, 0, _ => rfl
  | y :: W, a, k + 1, h => by
    rw [pls, List.getElem?_cons_succ, pls_at W _ k (by simpa using h)]; rfl
theorem places_len (W : List Str) : (PLACES W).length = W.length + 1 := by rw [places_eq, pls_len]
theorem St.fold : ∀ (W : List Str) {x : Str} {a : Str × List Str}, St x a.1 a.2 → St (W.foldl joinF x) (W.foldl fSt a).1 (W.foldl fSt a).2
  | [], _, _, h => h
  | y :: W, _, a, h => St.fold W (a := fSt a y) (h.join y)
theorem goA (W : List Str) (k : Nat) : St ((W.take k).foldl joinF (Str.ofString "/")) ((W.take k).foldl fSt a00).1 ((W.take k).foldl fSt a00).2 := St.fold (W.take k) (a := a00) St.start
theorem goB (W : List Str) (k : Nat) : St ((W.drop k).foldl joinF (atP ((W.take k).foldl fSt a00))) (W.foldl fSt a00).1 (W.foldl fSt a00).2 := by
  have h := St.fold (W.drop k) (a := (W.take k).foldl fSt a00) (goA W k).again
  rw [← List.foldl_append, List.take_append_drop] at h
  exact h
theorem eqA (W : List Str) {n : Nat} (hn : n = W.length + 1) : (rangeKs 0 n).map (fun k => normF ((W.take k.toNat).foldl joinF (Str.ofString "/"))) = PLACES W := by
  subst hn
  apply List.ext_getElem?
  intro i
  by_cases h : i < W.length + 1
  · rw [places_eq, pls_at W a00 i (by omega), List.getElem?_map]
    have e : (rangeKs 0 (W.length + 1))[i]? = some (0 + (i : Int)) := by simp [rangeKs, h]
    have e2 : (0 + (i : Int)).toNat = i := by omega
    rw [e, Option.map_some, e2, (goA W i).norm]
  · rw [List.getElem?_eq_none, List.getElem?_eq_none]
    · rw [places_len]; omega
    · rw [List.length_map, rangeKs_length]; omega
abbrev LASTP (W : List Str) : Str := (PLACES W).getD W.length Str.empty
abbrev PATK (W : List Str) (k : Nat) : Str := (PLACES W).getD k Str.empty
theorem patk (W : List Str) (k : Nat) (h : k ≤ W.length) : PATK W k = atP ((W.take k).foldl fSt a00) := by
  unfold PATK
  rw [List.getD_eq_getElem?_getD, places_eq, pls_at W a00 k h]; rfl
theorem eqB (W : List Str) {n : Nat} (hn : n = W.length + 1) : (rangeKs 0 n).map (fun k => normF ((W.drop k.toNat).foldl joinF (PATK W k.toNat))) = List.replicate n (LASTP W) := by
  subst hn
  apply List.ext_getElem?
  intro i
  by_cases h : i < W.length + 1
  · rw [List.getElem?_map]
    have e : (rangeKs 0 (W.length + 1))[i]? = some (0 + (i : Int)) := by simp [rangeKs, h]
    have e2 : (0 + (i : Int)).toNat = i := by omega
    have e3 : LASTP W = atP (W.foldl fSt a00) := by
      have := patk W W.length (Nat.le_refl _)
      rwa [List.take_length] at this
    rw [e, Option.map_some, e2, patk W i (by omega), (goB W i).norm, e3, List.getElem?_replicate, if_pos h]
  · rw [List.getElem?_eq_none, List.getElem?_eq_none]
    · rw [List.length_replicate]; omega
    · rw [List.length_map, rangeKs_length]; omega
/-- the sign counts that the contracts ask for -/
theorem goA_root (W : List Str) (k : Nat) : 1 ≤ (rootOf ((W.take k).foldl joinF (Str.ofString "/"))).length := root_len _ (goA W k).root
theorem goB_root (W : List Str) (k : Nat) (h : k ≤ W.length) : 1 ≤ (rootOf ((W.drop k).foldl joinF (PATK W k))).length := by
  rw [patk W k h]; exact root_len _ (goB W k).root
theorem cl_pos {x : Str} (h : (cl x).take 1 = [47]) : 1 ≤ x.length := by
  rw [← cl_len]
  cases hx : cl x with
  | nil => rw [hx] at h; simp at h
  | cons a b => simp
theorem goA_pos (W : List Str) (k : Nat) : 1 ≤ ((W.take k).foldl joinF (Str.ofString "/")).length := cl_pos (goA W k).root
theorem goB_pos (W : List Str) (k : Nat) (h : k ≤ W.length) : 1 ≤ ((W.drop k).foldl joinF (PATK W k)).length := by
  rw [patk W k h]; exact cl_pos (goB W k).root
theorem patk_pos (W : List Str) (k : Nat) (h : k ≤ W.length) : 1 ≤ (PATK W k).length := by
  rw [patk W k h]; exact cl_pos (goA W k).again.root
/-- signs are good -/
abbrev gsL (l : List Nat) : Prop := ∀ c ∈ l, c < 1114112
theorem gs_split (c0 : Nat) : ∀ (l : List Nat), gsL l → ∀ p ∈ splitL c0 l, gsL p
  | [], _, p, h => by
    have : p = [] := by simpa [splitL] using h
    subst this; exact fun c hc => nomatch hc
  | x :: l, hl, p, h => by
    have ih := gs_split c0 l (fun c hc => hl c (.tail _ hc))
    by_cases hx : x = c0
    · rw [splitL, if_pos hx] at h
      rcases List.mem_cons.mp h with rfl | h
      · exact fun c hc => nomatch hc
      · exact ih p h
    · obtain ⟨q, r, hq⟩ := List.exists_cons_of_ne_nil (splitL_ne c0 l)
      rw [splitL, if_neg hx, hq] at h
      rw [hq] at ih
      rcases List.mem_cons.mp h with rfl | h
      · intro c hc
        rcases List.mem_cons.mp hc with rfl | hc
        · exact hl c (.head _)
        · exact ih q (.head _) c hc
      · exact ih p (.tail _ h)
theorem gs_fold : ∀ (l acc : List (List Nat)), (∀ p ∈ l, gsL p) → (∀ p ∈ acc, gsL p) → ∀ p ∈ l.foldl stepL acc, gsL p
  | [], _, _, h => h
  | p :: l, acc, hl, h => gs_fold l (stepL acc p) (fun q hq => hl q (.tail _ hq)) (by
    unfold stepL
    split
    · exact fun q hq => h q (List.dropLast_subset _ hq)
    · split
      · exact h
      · intro q hq
        rcases List.mem_append.mp hq with hq | hq
        · exact h q hq
        · have : q = p := by simpa using hq
          subst this; exact hl q (.head _))
theorem gs_skL {sk : List (List Nat)} {y : List Nat} (hs : ∀ p ∈ sk, gsL p) (hy : gsL y) : ∀ p ∈ skL sk y, gsL p := by
  unfold skL stkL
  refine gs_fold _ _ (gs_split 47 _ fun c hc => hy c ((List.dropWhile_suffix _).subset hc)) ?_
  split
  · exact fun p hp => nomatch hp
  · exact hs
theorem gs_rtL {r y : List Nat} (hr : gsL r) : gsL (rtL r y) := by
  unfold rtL
  split
  · unfold rtn; split <;> (intro c hc; simp at hc; omega)
  · exact hr
theorem gs_joinL : ∀ (ps : List (List Nat)), (∀ p ∈ ps, gsL p) → gsL (joinL 47 ps)
  | [], _ => fun c hc => nomatch hc
  | [p], h => h p (.head _)
  | p :: q :: r, h => by
    intro c hc
    rcases List.mem_append.mp hc with hc | hc
    · exact h p (.head _) c hc
    · rcases List.mem_cons.mp hc with rfl | hc
      · decide
      · exact gs_joinL (q :: r) (fun z hz => h z (.tail _ hz)) c hc
theorem gs_ok {x : Str} (h : gsL (cl x)) : PyData.strOk x = true := by
  unfold PyData.strOk
  rw [Array.all_eq_true']
  intro c hc
  exact decide_eq_true (h c (Array.mem_toList_iff.mpr hc))
theorem gs_state : ∀ (W : List Str) (a : Str × List Str), (∀ y ∈ W, gsL (cl y)) → gsL (cl a.1) → (∀ p ∈ a.2.map cl, gsL p) → ∀ z ∈ pls a W, gsL (cl z)
  | [], a, _, h1, h2, z, hz => by
    have : z = atP a := by simpa [pls] using hz
    subst this
    rw [cl_app, join_cl]
    intro c hc
    rcases List.mem_append.mp hc with hc | hc
    · exact h1 c hc
    · exact gs_joinL _ h2 c hc
  | y :: W, a, hW, h1, h2, z, hz => by
    rcases List.mem_cons.mp hz with rfl | hz
    · rw [cl_app, join_cl]
      intro c hc
      rcases List.mem_append.mp hc with hc | hc
      · exact h1 c hc
      · exact gs_joinL _ h2 c hc
    · refine gs_state W (fSt a y) (fun q hq => hW q (.tail _ hq)) ?_ ?_ z hz
      · rw [cl_rt1]; exact gs_rtL h1
      · rw [cl_sk1]; exact gs_skL h2 (hW y (.head _))
theorem places_ok (W : List Str) (h : ∀ y ∈ W, gsL (cl y)) : ∀ z ∈ PLACES W, PyData.strOk z = true := by
  intro z hz
  rw [places_eq] at hz
  refine gs_ok (gs_state W a00 h ?_ ?_ z hz)
  · have : cl (Str.ofString "/") = [47] := by rw [sl_mk, cl_mk]
    rw [this]; intro c hc; simp at hc; omega
  · exact fun p hp => nomatch hp
abbrev gL (l : List Nat) : Prop := ∀ c ∈ l, goodC c
theorem good_small {c : Nat} (h : goodC c) : c < 1114112 := by
  rcases h with h | h | h | h
  · have h' : c ∈ [46, 47, 97, 98, 99, 105, 115, 116, 120, 121] := List.contains_iff_mem.mp h
    simp only [List.mem_cons, List.not_mem_nil, or_false] at h'
    omega
  · omega
  · omega
  · omega
theorem tbl6_good (i : Nat) : gL (cl (TBL6.getD i Str.empty)) := by
  by_cases h : i < 6
  · have : i = 0 ∨ i = 1 ∨ i = 2 ∨ i = 3 ∨ i = 4 ∨ i = 5 := by omega
    rcases this with rfl | rfl | rfl | rfl | rfl | rfl <;> (unfold gL goodC; decide +kernel)
  · rw [List.getD_eq_getElem?_getD, List.getElem?_eq_none (by show 6 ≤ i; omega)]; exact fun c hc => nomatch hc
theorem tbl5_good (i : Nat) : gL (cl (TBL5.getD i Str.empty)) := by
  by_cases h : i < 5
  · have : i = 0 ∨ i = 1 ∨ i = 2 ∨ i = 3 ∨ i = 4 := by omega
    rcases this with rfl | rfl | rfl | rfl | rfl <;> (unfold gL goodC; decide +kernel)
  · rw [List.getD_eq_getElem?_getD, List.getElem?_eq_none (by show 5 ≤ i; omega)]; exact fun c hc => nomatch hc
theorem gL_joinL : ∀ (ps : List (List Nat)), (∀ p ∈ ps, gL p) → gL (joinL 47 ps)
  | [], _ => fun c hc => nomatch hc
  | [p], h => h p (.head _)
  | p :: q :: r, h => by
    intro c hc
    rcases List.mem_append.mp hc with hc | hc
    · exact h p (.head _) c hc
    · rcases List.mem_cons.mp hc with rfl | hc
      · exact .inl (by decide)
      · exact gL_joinL (q :: r) (fun z hz => h z (.tail _ hz)) c hc
theorem wordF_good (x : Int) : gL (cl (wordF x)) := by
  unfold wordF
  rw [cl_app, join_cl]
  intro c hc
  rcases List.mem_append.mp hc with hc | hc
  · exact tbl5_good _ c hc
  · refine gL_joinL _ ?_ c hc
    intro p hp
    obtain ⟨y, hy, rfl⟩ := List.mem_map.mp hp
    obtain ⟨k, _, rfl⟩ := List.mem_map.mp hy
    exact tbl6_good _
theorem join_len (sep : Str) : ∀ (l : List Str), (Txt.join sep l).length ≤ (l.map (·.length)).sum + l.length * sep.length := by
  intro l
  show (Builtin.Str.glued sep l).length ≤ _
  rw [StrLaws.glued_eq_join]
  exact StrLaws.join_length_le sep l
theorem takes {ys : List Value} {zs : List Int} (h : CarriedAll ys ((zs.take 4).map fun k => PyData.str (wordF k))) : StrsAre ys ((zs.take 4).map wordF) := CarriedAll.strsOf h
theorem wordF_len (x : Int) : (wordF x).length ≤ 100 := by
  have a1 := tbl5_len (x.fmod 5).toNat
  have a2 := join_len (Str.ofString "/") (lwPs x)
  have a3 : (Str.ofString "/").length = 1 := by decide +kernel
  have b1 := sum_le (lwPs_each x)
  have b2 := lwPs_len x
  unfold wordF
  rw [Str.length_append]
  rw [a3] at a2
  omega
theorem strs_app : ∀ {vs ws : List Value} {xs ys : List Str}, StrsAre vs xs → StrsAre ws ys → StrsAre (vs ++ ws) (xs ++ ys)
  | _, _, _, _, .nil, h => h
  | _, _, _, _, .cons y t r, h => .cons y t (strs_app r h)
abbrev FIVE : List Str := [Str.ofString "c/it's/.", Str.ofString "", Str.ofString "../a b", Str.ofString "//x\"y/..", Str.ofString "../c//a b"]
theorem five {t1 t2 t3 t4 t5 : Tok} : StrsAre [.str (Str.ofString "c/it's/.") t1, .str (Str.ofString "") t2, .str (Str.ofString "../a b") t3, .str (Str.ofString "//x\"y/..") t4, .str (Str.ofString "../c//a b") t5] FIVE := .cons _ _ (.cons _ _ (.cons _ _ (.cons _ _ (.cons _ _ .nil))))
def WORDS (zs : List Int) : List Str := (zs.take 4).map wordF ++ FIVE
theorem five_len : ∀ y ∈ FIVE, y.length ≤ 20 := by
  intro y hy
  simp only [FIVE, List.mem_cons, List.not_mem_nil, or_false] at hy
  rcases hy with rfl | rfl | rfl | rfl | rfl <;> decide +kernel
theorem five_good : ∀ y ∈ FIVE, gL (cl y) := by
  intro y hy
  simp only [FIVE, List.mem_cons, List.not_mem_nil, or_false] at hy
  rcases hy with rfl | rfl | rfl | rfl | rfl <;> (unfold gL goodC; decide +kernel)
theorem words_count (zs : List Int) : (WORDS zs).length ≤ 9 := by
  show ((zs.take 4).map wordF ++ FIVE).length ≤ 9
  rw [List.length_append, List.length_map, List.length_take]
  show min 4 zs.length + 5 ≤ 9
  omega
theorem words_five (zs : List Int) : 5 ≤ (WORDS zs).length := by
  show 5 ≤ ((zs.take 4).map wordF ++ FIVE).length
  rw [List.length_append]
  show 5 ≤ _ + 5
  omega
theorem words_len (zs : List Int) : ∀ y ∈ WORDS zs, y.length ≤ 100 := by
  intro y hy
  rcases List.mem_append.mp hy with h | h
  · obtain ⟨x, _, rfl⟩ := List.mem_map.mp h
    exact wordF_len x
  · exact Nat.le_trans (five_len y h) (by omega)
theorem words_good (zs : List Int) : ∀ y ∈ WORDS zs, gL (cl y) := by
  intro y hy
  rcases List.mem_append.mp hy with h | h
  · obtain ⟨x, _, rfl⟩ := List.mem_map.mp h
    exact wordF_good x
  · exact five_good y h
/-- quote as one contract -/
def qF (x : Str) : Str := mk (quoteL (cl x))
theorem quote_C (w : World) (mean : ExcName → Option Value) (mg mb : Str → Option Value) (news : List (Addr × Obj)) (x : Str) (tx : Tok) (hx : x.length ≤ 1000) (hg : gL (cl x)) :
    TClaim w mean mg mb news 869 3 [.str x tx] (rText news (qF x)) := by
  have hl := cl_len x
  have hsz : x.cps.size = x.length := rfl
  have hgd : ∀ i, i < x.cps.size → x.cps.getD i 0 = (cl x).getD i 0 ∧ (cl x).getD i 0 ∈ cl x := by
    intro i hi
    have h' : i < (cl x).length := by omega
    refine ⟨?_, ?_⟩
    · simp [cl, Array.getD, List.getD, hi]
    · rw [List.getD_eq_getElem?_getD, List.getElem?_eq_getElem h']
      exact List.getElem_mem h'
  by_cases h0 : cl x = []
  · have e : x = Str.ofString "" := by rw [e_mk]; exact eq_cl.mpr h0
    have e2 : qF x = Str.ofString "''" := by
      unfold qF quoteL
      rw [if_pos h0]; decide +kernel
    rw [e2, e]
    exact quote_empty w mean mg mb news tx
  · have h1 : 1 ≤ x.length := by
      rw [← hl]
      exact List.length_pos_iff.mpr h0
    by_cases hs : (cl x).all safeC = true
    · have e2 : qF x = x := by
        unfold qF quoteL
        rw [if_neg h0, if_pos hs]; exact mk_toList x
      rw [e2]
      refine quote_safe w mean mg mb news x tx (by omega) (by omega) h1 fun i hi => ?_
      rw [(hgd i hi).1]
      exact List.all_eq_true.mp hs _ (hgd i hi).2
    · have e2 : qF x = Str.ofString "'" ++ qrep x ++ Str.ofString "'" := by
        apply cl_inj
        unfold qF quoteL
        rw [if_neg h0, if_neg hs, cl_mk, cl_app, cl_app]
        have q1 : cl (Str.ofString "'") = [39] := by decide +kernel
        have q2 : cl (qrep x) = replL 39 QR (cl x) := by
          have e : Str.ofString "'" = ⟨#[39]⟩ := by decide +kernel
          have e3 : cl (Str.ofString "'\"'\"'") = QR := by decide +kernel
          unfold qrep
          rw [e, ← e3]
          exact replace_list x _ 39
        rw [q1, q2]; rfl
      rw [e2]
      refine quote_bad w mean mg mb news x tx hx (by omega) h1 ?_
      have find : ∀ (l : List Nat), gL l → l.all safeC ≠ true → ∃ k, k < l.length ∧ badC (l.getD k 0) = true ∧ ∀ i, i < k → safeC (l.getD i 0) = true := by
        intro l
        induction l with
        | nil => intro _ h; exact absurd rfl h
        | cons c l ih =>
          intro hg h
          by_cases hc : safeC c = true
          · obtain ⟨k, hk, h1, h2⟩ := ih (fun d hd => hg d (.tail _ hd)) (fun e => h (by rw [List.all_cons, hc, e]; rfl))
            refine ⟨k + 1, by simp only [List.length_cons]; omega, by simpa using h1, fun i hi => ?_⟩
            cases i with
            | zero => simpa using hc
            | succ i => simpa using h2 i (by omega)
          · refine ⟨0, by simp, ?_, fun i hi => absurd hi (by omega)⟩
            rcases hg c (.head _) with h | rfl | rfl | rfl
            · exact absurd h hc
            · exact (by decide : badC 32 = true)
            · exact (by decide : badC 34 = true)
            · exact (by decide : badC 39 = true)
      obtain ⟨k, hk, hb, hc⟩ := find (cl x) hg hs
      refine ⟨k, by omega, ?_, fun i hi => ?_⟩
      · rw [(hgd k (by omega)).1]; exact hb
      · rw [(hgd i (by omega)).1]; exact hc i hi
theorem qF_len (x : Str) : (qF x).length ≤ 5 * x.length + 2 := by
  have hl := cl_len x
  have h := replL_len 39 QR (by decide) (cl x)
  unfold qF
  rw [mk_len]
  unfold quoteL
  split
  · simp
  · split
    · omega
    · simp only [List.length_cons, List.length_append, List.length_nil]; omega
abbrev BL : Str := Str.ofString " "
def LG (W : List Str) (k : Int) : Str := qF (W.getD k.toNat Str.empty) ++ Txt.mul BL (1 + k.fmod 2)
theorem cl_LG (W : List Str) (k : Int) : cl (LG W k) = quoteL (cl (W.getD k.toNat Str.empty)) ++ List.replicate (1 + k.fmod 2).toNat 32 := by
  have e : BL = ⟨#[32]⟩ := by decide +kernel
  unfold LG
  rw [cl_app, e]
  have := mul_one_list 32 (1 + k.fmod 2)
  rw [qF, cl_mk]
  exact congrArg _ this
theorem joinE : ∀ (l : List Str), cl (Txt.join (Str.ofString "") l) = (l.map cl).flatten := by
  intro l
  have key : ∀ (l : List Str), cl (Str.join (Str.ofString "") l) = (l.map cl).flatten := by
    intro l
    induction l with
    | nil => rfl
    | cons p r ih =>
      cases r with
      | nil => show cl p = _; simp
      | cons q r =>
        show cl (p ++ Str.ofString "" ++ Str.join (Str.ofString "") (q :: r)) = _
        have e : cl (Str.ofString "") = [] := by rw [e_mk, cl_mk]
        rw [cl_app, cl_app, ih, e, List.append_nil]; rfl
  show cl (Builtin.Str.glued _ l) = _
  rw [StrLaws.glued_eq_join]
  exact key l
theorem line_from (W : List Str) : ∀ (V : List Str) (j : Nat), W.drop j = V → (((List.range V.length).map fun i => cl (LG W ((j + i : Nat) : Int)))).flatten = lineL (V.map cl) j
  | [], j, _ => rfl
  | v :: V, j, h => by
    have h1 : W.drop (j + 1) = V := by rw [← List.drop_drop, h]; rfl
    have ih := line_from W V (j + 1) h1
    have h2 : W.getD j Str.empty = v := by
      have : (W.drop j)[0]? = some v := by rw [h]; rfl
      rw [List.getElem?_drop] at this
      rw [List.getD_eq_getElem?_getD]
      have e : j + 0 = j := rfl
      rw [e] at this
      rw [this]; rfl
    rw [List.length_cons, List.range_succ_eq_map, List.map_cons, List.flatten_cons, List.map_map]
    have e : (List.map ((fun i => cl (LG W ((j + i : Nat) : Int))) ∘ Nat.succ) (List.range V.length)) = (List.range V.length).map fun i => cl (LG W ((j + 1 + i : Nat) : Int)) := by
      apply List.map_congr_left
      intro i _
      show cl (LG W ((j + (i + 1) : Nat) : Int)) = _
      rw [show j + (i + 1) = j + 1 + i from by omega]
    rw [e, ih, cl_LG]
    have e3 : (((j + 0 : Nat) : Int)).toNat = j := by omega
    have e4 : (1 + (((j + 0 : Nat) : Int)).fmod 2).toNat = 1 + j % 2 := by
      rw [Int.fmod_eq_emod_of_nonneg _ (by decide)]
      omega
    rw [e3, e4, h2, List.append_assoc]
    rfl
def LINE (W : List Str) (n : Nat) : Str := Txt.join (Str.ofString "") ((rangeKs 0 n).map (LG W))
theorem line_cl (W : List Str) {n : Nat} (hn : n = W.length) : cl (LINE W n) = lineL (W.map cl) 0 := by
  subst hn
  unfold LINE
  rw [joinE, ← line_from W W 0 rfl]
  congr 1
  unfold rangeKs
  rw [List.map_map, List.map_map]
  apply List.map_congr_left
  intro i _
  show cl (LG W (0 + (i : Int))) = cl (LG W ((0 + i : Nat) : Int))
  rw [show (0 + (i : Int)) = ((0 + i : Nat) : Int) from by omega]
theorem LG_len (W : List Str) (h : ∀ y ∈ W, y.length ≤ 100) (k : Int) : (LG W k).length ≤ 510 := by
  have h1 : (W.getD k.toNat Str.empty).length ≤ 100 := by
    rw [List.getD_eq_getElem?_getD]
    cases e : W[k.toNat]? with
    | none => exact Nat.zero_le _
    | some y => exact h y (List.mem_of_getElem? e)
  have h2 := qF_len (W.getD k.toNat Str.empty)
  have h3 := fm_lt k 2 (by decide)
  have h4 : (Txt.mul BL (1 + k.fmod 2)).length ≤ 2 := by
    rw [← cl_len]
    have e : BL = ⟨#[32]⟩ := by decide +kernel
    rw [e]
    have := mul_one_list 32 (1 + k.fmod 2)
    rw [cl, this, List.length_replicate]
    omega
  unfold LG
  rw [Str.length_append]
  omega
theorem line_len (W : List Str) (h : ∀ y ∈ W, y.length ≤ 100) (n : Nat) (hn : n ≤ 9) : (LINE W n).length ≤ 100000 := by
  unfold LINE
  have h1 := join_len (Str.ofString "") ((rangeKs 0 n).map (LG W))
  have h2 : ((((rangeKs 0 n).map (LG W))).map (·.length)).sum ≤ ((rangeKs 0 n).map (LG W)).length * 510 := sum_le fun y hy => by
    obtain ⟨k, _, rfl⟩ := List.mem_map.mp hy
    exact LG_len W h k
  have h3 : (Str.ofString "").length = 0 := by decide +kernel
  rw [h3] at h1
  rw [List.length_map, rangeKs_length] at h1 h2
  have := Nat.mul_le_mul_right 510 hn
  omega
end PW_

section LT0_
theorem toks_line : ∀ (ws : List (List Nat)), (∀ w ∈ ws, gL w) → ∀ (k j : Nat), Toks (List.replicate j 32 ++ lineL ws k) ws
  | [], _, k, j => .nil (l' := []) (by rw [tok_blank]; rfl)
  | w :: ws, h, k, j => .cons (l' := List.replicate (k % 2) 32 ++ lineL ws (k + 1)) (by
      rw [tok_blank]
      have e : lineL (w :: ws) k = quoteL w ++ 32 :: (List.replicate (k % 2) 32 ++ lineL ws (k + 1)) := by
        show quoteL w ++ (List.replicate (1 + k % 2) 32 ++ lineL ws (k + 1)) = _
        rw [Nat.add_comm 1, List.replicate_succ]; rfl
      rw [e]
      exact tok_quote w _ (h w (.head _))) (toks_line ws (fun q hq => h q (.tail _ hq)) (k + 1) (k % 2))
theorem line_toks (W : List Str) (h : ∀ y ∈ W, gL (cl y)) : Toks (lineL (W.map cl) 0) (W.map cl) := by
  have := toks_line (W.map cl) (fun w hw => by obtain ⟨y, hy, rfl⟩ := List.mem_map.mp hw; exact h y hy) 0 0
  simpa using this
theorem map_back (W : List Str) : (W.map cl).map mk = W := by
  rw [List.map_map]
  conv => rhs; rw [← List.map_id W]
  exact List.map_congr_left fun y _ => mk_toList y
theorem line_mk (W : List Str) {n : Nat} (hn : n = W.length) : LINE W n = mk (lineL (W.map cl) 0) := by rw [← line_cl W hn]; exact (mk_toList _).symm
theorem line_pos (W : List Str) {n : Nat} (hn : n = W.length) (h : 1 ≤ n) : 1 ≤ (LINE W n).length := by
  rw [line_mk W hn, mk_len]
  cases W with
  | nil => subst hn; exact absurd h (by simp)
  | cons w W =>
    show 1 ≤ (quoteL (cl w) ++ (List.replicate (1 + 0 % 2) 32 ++ lineL (W.map cl) (0 + 1))).length
    rw [List.length_append, List.length_append, List.length_replicate]; omega
def codeOf {q : Program} {loose : List Str} {XP : (Str → Option Value) → Heap → Prop} {YP : World → Heap → Prop} {r : RowW} {d : DefRec} {kwd : List (Str × Expr)} {run : Value → List Value → Sem Value} {P : Prop} (_ : WalkO q loose XP YP r d kwd run → P) : DefRec := d
noncomputable def LAWD : DefRec := codeOf hd
noncomputable abbrev LENV (L fa : Addr) (cd : Value) : Env := envOfC LAWD.name LAWD.scope L fa cd
theorem rng_n (n : Nat) : ((n : Int) - 0).toNat = n := by omega
theorem lt_rng {k : Int} {n : Nat} (h : k < 0 + ((((n : Int) - 0).toNat : Nat) : Int)) : k < (n : Int) := by omega
theorem nat_lt {k : Int} {n : Nat} (h0 : 0 ≤ k) (h : k < (n : Int)) : k.toNat < n := by omega
theorem small_n {n : Nat} (h : n ≤ 1000000) : Builtin.Range.small 0 (n : Int) 1 = true := small_one (by omega) (by omega) (by omega) (by omega)
theorem size_n {n : Nat} (h : n ≤ 1000000) : ((n : Int) - 0).toNat ≤ sizeLine := by rw [PySem.sizeLine_eq]; omega
theorem mem_get {W : List Str} {i : Nat} (h : i < W.length) : W.getD i Str.empty ∈ W := by
  rw [List.getD_eq_getElem?_getD, List.getElem?_eq_getElem h]; exact List.getElem_mem _
theorem qF_600 {y : Str} (h : y.length ≤ 100) : (qF y).length ≤ 600 := by have := qF_len y; omega
theorem mul_two (k : Int) : (Txt.mul BL (1 + k.fmod 2)).length ≤ 2 := by
  have h3 := fm_lt k 2 (by decide)
  rw [← cl_len]
  have e : BL = ⟨#[32]⟩ := by decide +kernel
  rw [e]
  have := mul_one_list 32 (1 + k.fmod 2)
  rw [cl, this, List.length_replicate]
  omega
theorem add_sz {x : Str} (h : (qF x).length ≤ 600) (k : Int) : (qF x).length + (Txt.mul BL (1 + k.fmod 2)).length ≤ sizeLine := by
  have := mul_two k
  rw [PySem.sizeLine_eq]; omega
theorem lines_sz (W : List Str) (hlen : ∀ y ∈ W, y.length ≤ 100) (hn9 : W.length ≤ 9) : (((rangeKs 0 W.length).map (LG W)).map (·.length)).sum + ((rangeKs 0 W.length).map (LG W)).length * 64 ≤ 16777216 := by
  have := sum_le (L := (rangeKs 0 W.length).map (LG W)) (c := 510) fun y hy => by
    obtain ⟨k, _, rfl⟩ := List.mem_map.mp hy
    exact LG_len W hlen k
  rw [List.length_map, rangeKs_length] at this ⊢
  omega
theorem allLt_mem {d : Nat} : ∀ {l : List (Addr × Obj)}, AllLt d l → ∀ q ∈ l, @LT.lt Nat _ q.1 d
  | [], _, _, h => nomatch h
  | p :: l, h, q, hq => by
    rcases List.mem_cons.mp hq with rfl | hq
    · exact h.1
    · exact allLt_mem h.2 q hq
section
variable {prog : Program} {w : World} {A : Around} {E : Value → Shared → Prop} {s : Shared} {h₀ : Heap} {L : Addr} {m : Str → Option Value} {news : List (Addr × Obj)}
theorem strs_at : ∀ {vs : List Value} {xs : List Str}, StrsAre vs xs → ∀ i, i < xs.length → ∃ t, vs[i]? = some (.str (xs.getD i Str.empty) t)
  | _, _, .nil, i, h => absurd h (Nat.not_lt_zero _)
  | _, _, .cons y t r, 0, _ => ⟨t, rfl⟩
  | _, _, .cons y t r, i + 1, h => by
    obtain ⟨u, hu⟩ := strs_at r i (by simpa using h)
    exact ⟨u, by simpa using hu⟩
theorem item_S {value slice : Expr} {a : Addr} {vs : List Value} {xs : List Str} {n : Nat} {k : Int} {u : Tok} {Q : Value → Shared → Prop} (N : News h₀ L s.heap news) (hm : (a, listOf vs.toArray n) ∈ news) (hv : StrsAre vs xs) (h0 : 0 ≤ k) (hk : k < xs.length) (hx : xs.length ≤ 1000000)
    (h : ∀ t, Q (.str (xs.getD k.toNat Str.empty) t) s) (hs : subscripted slice false (.ref a) (.int k u) = operate [.ref a, .int k u] (getItem (.ref a) (.int k u)) := by with_unfolding_all rfl) :
    wpAny (model prog w) A (subscriptTail value slice (.ref a) (.int k u)) Q E s := by
  have hl : s.heap.IsList a vs.toArray := News.isList N hm
  obtain ⟨t, ht⟩ := strs_at hv k.toNat (by omega)
  exact tail_any hl.typeIs slot_list_getitem.lookup (wpAny_getItem_list hl h0 (by omega) (by simpa using ht) (h t)) hs
theorem len_S {a : Addr} {vs : List Value} {xs : List Str} {n : Nat} {Q : Value → Shared → Prop} (N : News h₀ L s.heap news) (hm : (a, listOf vs.toArray n) ∈ news) (hv : StrsAre vs xs) (hx : xs.length ≤ 1000000)
    (h : ∀ t tk, Q (.int (xs.length : Nat) t) { s with toks := tk }) : wpAny (model prog w) A (call (.builtin "len") [.ref a]) Q E s := by
  have hl := StrsAre.length hv
  exact KM.len_K (n := xs.length) N hm (by rw [List.size_toArray]; exact hl) (by omega) (h _ _)
theorem mul_S {a : Addr} {v : Value} {n : Nat} {x : Int} {u : Tok} {Q : Value → Shared → Prop} (F : Fr h₀ L s.heap m) (N : News h₀ L s.heap news) (hm : (a, listOf #[v] n) ∈ news) (h0 : 0 ≤ x) (hx : x ≤ 200)
    (h : ∀ D h', Fr h₀ L h' m → News h₀ L h' ((D, listOf (List.replicate x.toNat v).toArray 0) :: news) → (∀ p ∈ news, p.1 < D) → Q (.ref D) { s with heap := h' }) : wpAny (model prog w) A (binaryOp .Mult (.ref a) (.int x u)) Q E s := by
  have hl : s.heap.IsList a [v].toArray := News.isList N hm
  refine KMa.mul F N hl (by omega) (by omega) (by simp only [List.length_cons, List.length_nil]; omega) ?_ h
  have key : ∀ k : Nat, (List.replicate k [v]).flatten = List.replicate k v := by
    intro k
    induction k with
    | zero => rfl
    | succ k ih => rw [List.replicate_succ, List.flatten_cons, ih, List.replicate_succ]; rfl
  exact key _
theorem mul_BL {t u : Tok} {k : Int} {Q : Value → Shared → Prop} (h : ∀ t' tk, Q (.str (Txt.mul BL (1 + k.fmod 2)) t') { s with toks := tk }) : wpAny (model prog w) A (binaryOp .Mult (.str BL t) (.int (1 + k.fmod 2) u)) Q E s := by
  have h1 := fm_nn k 2 (by decide)
  have h2 := fm_lt k 2 (by decide)
  exact KXi.mul (n := 1) (by decide +kernel) (by decide) (by omega) (by omega) fun t' tk _ _ => h t' tk
theorem strs_rep {v : Str} {t : Tok} : ∀ k : Nat, StrsAre (List.replicate k (.str v t)) (List.replicate k v)
  | 0 => .nil
  | k + 1 => .cons v t (strs_rep k)
end
end LT0_

section LT1_
theorem lines_55 : True := by
  k_with_none
  k_with "call builtin:issubclass" => (k_here; (with_reducible show wpAny _ _ (call (Value.builtin "issubclass") [Value.type "str", Value.ref _]) _ _ _); k_dflt (refine' issub_K ?k1 ?k2 ?_; (case k1 => k_asm); (case k2 => k_mem); k_whole); intro _)
  k_with "call ref" => (k_here; (with_reducible show wpAny _ _ (call (Value.ref 117) [Value.str _ _]) _ _ _); k_dflt (refine' TClaim.use (fspath_C _ _ _ _ _ _ _) ?k1 ?k2 ?k3 ?k4 ?k5 ?k6 ?k7 ?k8 ?_; (case k1 => k_asm); (case k2 => k_asm); (case k3 => k_asm); (case k4 => k_asm); (case k5 => k_asm); (case k6 => first | exact rfl | assumption); (case k7 => ktr_room); (case k8 => ktr_units); k_whole); (intro _ _ _ _); (try k_sweep))
  k_with "call ref" => ((k_here; (with_reducible show wpAny _ _ (call (Value.ref 145) [Value.str _ _]) _ _ _); k_dflt (refine' TClaim.use (splitroot_C _ _ _ _ _ _ _ (by kt_len)) ?k1 ?k2 ?k3 ?k4 ?k5 ?k6 ?k7 ?k8 ?_; (case k1 => k_asm); (case k2 => k_asm); (case k3 => k_asm); (case k4 => k_asm); (case k5 => k_asm); (case k6 => first | exact rfl | assumption); (case k7 => ktr_room); (case k8 => ktr_units); k_whole); (intro _ _ _ _ _ _ _ _ e1 e2 _ _ l1 _); (try k_lt l1); (subst e1 e2); (try k_sweep)); (try (revert l1; intro _)))
  k_with "call builtin:str.split" => ((k_here; (with_reducible show wpAny _ _ (call (Value.builtin "str.split") [Value.str _ _, Value.str (PySem.Str.ofString "/") _]) _ _ _); (refine KSpl.split1 (by k_asm) (by k_asm) (by decide) ?_ (by rw [PySem.sizeLine_eq]; omega)); (intro _ _ _ _ _ _ _ _ l1); (try k_lt l1)); (try (revert l1; intro _)))
  k_with "call builtin:list.append" => (k_here; (with_reducible show wpAny _ _ (call (Value.builtin _) [Value.ref _, _]) _ _ _); k_dflt (refine' append_L ?k1 ?k2 ?k3 ?z ?_; (case k1 => k_asm); (case k2 => k_asm); (case k3 => k_upd); (case z => with_reducible assumption); k_whole); intro _ _ _; (try k_sweep))
  k_with "call builtin:list.pop" => (k_here; k_dflt (refine' pop_snoc ?k1 ?k2 ?k3 ?z ?_; (case k1 => k_asm); (case k2 => k_asm); (case k3 => k_upd); (case z => with_reducible assumption); k_whole); intro _ _ _; (try k_sweep))
  k_with "subscriptTail Name UnaryOp ref int" => (k_here; (with_reducible show wpAny _ _ (subscriptTail _ _ (Value.ref _) (Value.int _ _)) _ _ _); (with_unfolding_all refine' last_snoc ?k1 ?k2 ?_ ?k3 ?k4; (case k1 => k_asm); (case k2 => k_mem); (case k3 => with_unfolding_all rfl); (case k4 => (intro _; with_unfolding_all rfl)); k_whole))
  k_with "truthy ref" => (k_here; (with_reducible show wpAny _ _ (truthy (Value.ref _)) _ _ _); k_dflt (refine' truthy_strs ?k1 ?k2 ?k3 ?k4 ?g0 ?g1; (case k1 => k_asm); (case k2 => k_mem); (case k3 => with_reducible assumption); (case k4 => with_reducible assumption)); (case' g0 => (intro e1 _; subst e1)); (case' g1 => (intro _ _ _ _ e1 _ _; subst e1)))
  k_with "truthy ref" => (k_here; (with_reducible show wpAny _ _ (truthy (Value.ref _)) _ _ _); k_dflt (refine' truthy_snoc ?k1 ?k2 ?k4 ?_; (case k1 => k_asm); (case k2 => k_mem); (case k4 => with_reducible assumption); k_whole))
  k_with "TPost" => (dsimp only [TPost])
  trivial
theorem lines_56 : True := by
  k_with "truthy str" => (k_here; (with_reducible show wpAny _ _ (PySem.truthy (Value.str _ _)) _ _ _); (refine' KXt.truthy_pos ?kxta ?kxtb ?kxtc ?_; (case kxta => with_reducible assumption); (case kxtb => with_reducible assumption); (case kxtc => exact Nat.le_of_ble_eq_true rfl)); intro _)
  k_with "call builtin:str.join" => (k_here; (with_reducible show wpAny _ _ (call (Value.builtin "str.join") [Value.str _ _, Value.ref _]) _ _ _); k_dflt (refine' join_listC ?k1 ?k2 ?k3 ?k4 ?_; (case k1 => exact News.isList (by k_asm) (by k_mem)); (case k2 => with_reducible assumption); (case k3 => decide); (case k4 => with_reducible assumption); k_whole); intro _ _)
  k_with "binaryOp Add str str" => (k_here; (with_reducible show wpAny _ _ (binaryOp Operator.Add (Value.str _ _) (Value.str _ _)) _ _ _); (refine' PyProof.Rows.add_str ?_ ?z; (case z => with_reducible assumption)); intro _ _)
  k_with "MY enter" => (refine' code_def ?k1 ?k2 ?k3 ?k4 ?k5 ?kA ?kF ?kK ?k6 ?k7 ?k8 ?k9 ?kB ?_ ?c2 ?c3 ?c4 ?c5; (case kA => exact rfl); (case kF => exact rfl); (case kK => first | assumption | exact rfl); (case k1 => k_asm); (case k2 => k_asm); (case k3 => k_asm); (case k4 => k_asm); (case k5 => k_asm); (case k6 => k_is); (case k7 => k_is); (case k8 => ktr_room); (case k9 => first | exact BindsTo.of_eq rfl | exact binds_K (by k_in) rfl (by k_is) rfl rfl rfl); (case c5 => decide); (case kB => exact locs rfl); (case c2 => exact rfl); (case c3 => exact rfl); (case c4 => exact rfl); k_whole; intro _ _ _ _ _ _ _ _ _; (try dsimp only); (try k_fold))
  k_with "compareOp Is" => (k_here; (with_reducible show wpAny _ _ (compareOp CmpOp.Is (Value.str _ _) (Value.ref _)) _ _ _); refine wpAny_is_other (by rfl) (by intro x; cases x) ?_)
  k_with "exec For Name Name cons nil" => (k_here; (with_unfolding_all refine' For_turns (by k_asm) ?_; k_whole))
  trivial
theorem lines_57 : True := by
  k_with "exec If" => (k_here; refine wpAny_If ?_)
  k_with "CompSrc" => (k_here; (with_reducible show LCg.CompSrc _ _ _ _ _ _ _ _ _ _ _ _ _ _); refine heldC ?_)
  k_with "call builtin:len" => (k_here; (with_reducible show wpAny _ _ (call (Value.builtin "len") [Value.ref _]) _ _ _); k_dflt (refine' len_S ?k1 ?k2 ?k3 ?k4 ?_; (case k1 => k_asm); (case k2 => k_mem); (case k3 => with_reducible assumption); (case k4 => with_reducible assumption); k_whole); (intro _ _))
  k_with "subscriptTail Name Name ref int" => (k_here; (with_reducible show wpAny _ _ (subscriptTail _ _ (Value.ref _) (Value.int _ _)) _ _ _); (with_unfolding_all refine' item_S ?k1 ?k2 ?k3 ?k4 ?k5 ?k6 ?_ ?k7; (case k1 => k_asm); (case k2 => k_mem); (case k3 => with_reducible assumption); (case k4 => with_reducible assumption); (case k5 => with_reducible assumption); (case k6 => with_reducible assumption); (case k7 => with_unfolding_all rfl); k_whole); (intro _))
  k_with "call ref" => (k_here; (with_reducible show wpAny _ _ (call (Value.ref 869) [Value.str _ _]) _ _ _); k_dflt (refine' TClaim.use (quote_C _ _ _ _ _ _ _ (by with_reducible assumption) (by with_reducible assumption)) ?k1 ?k2 ?k3 ?k4 ?k5 ?k6 ?k7 ?k8 ?_; (case k1 => k_asm); (case k2 => k_asm); (case k3 => k_asm); (case k4 => k_asm); (case k5 => k_asm); (case k6 => first | exact rfl | assumption); (case k7 => ktr_room); (case k8 => ktr_units); k_whole); (intro _ _ _ _ _); (try k_sweep))
  k_with "call ref" => (k_here; (with_reducible show wpAny _ _ (call (Value.ref 861) [Value.str _ _]) _ _ _); refine heldC ?_)
  k_with "binaryOp Mult str int" => (k_here; (with_reducible show wpAny _ _ (binaryOp Operator.Mult (Value.str _ _) (Value.int _ _)) _ _ _); (refine mul_BL ?_); intro _ _)
  trivial
theorem cut2 {g h : Heap} {L : Addr} {a b : Addr × Obj} {r : List (Addr × Obj)} (N : News g L h (a :: b :: r)) : News g L h (a :: r) := fun p hp => N p (by
  rcases List.mem_cons.mp hp with rfl | hp
  · exact .head _
  · exact .tail _ (.tail _ hp))
noncomputable abbrev STM (i : Nat) : Stmt := LAWD.body.getD i (.Pass ⟨0, 0, 0, 0⟩)
abbrev cellsOf (L : Addr) (c1 c2 c3 : Obj) : List (Addr × Obj) := [(L + 1 + 1 + 1, c3), (L + 1 + 1, c2), (L + 1, c1)]
theorem st_told (w : World) (mean : ExcName → Option Value) (mg mb : Str → Option Value) (fa : Addr) (cd : Value) (h₀ : Heap) (L : Addr) (m : Str → Option Value) (s : Shared) (W : List Str) (Pl Wd : Addr) (pv wv : List Value) (pn wn : Nat) (c1 c2 c3 : Obj) (v3 : Option Value)
    (B : Below callerA h₀ [] h₀) (F : Fr h₀ L s.heap m) (X : (hd.heap_39 w.params).In h₀) (T : Top hd.view_39 LS mean mg mb h₀)
    (N : News h₀ L s.heap [(Pl, listOf pv.toArray pn), (Wd, listOf wv.toArray wn), (L + 1 + 1 + 1, c3), (L + 1 + 1, c2), (L + 1, c1)])
    (d1 : c1.data = .cell (some (.ref Wd))) (d2 : c2.data = .cell (some (.ref Pl))) (d3 : c3.data = .cell v3) (hw : StrsAre wv W) (o1 : @LT.lt Nat _ (L + 1 + 1 + 1) Wd) (o2 : @LT.lt Nat _ Wd Pl)
    (hn : W.length ≤ 1000000) (hn5 : 1 ≤ W.length) (hn9 : W.length ≤ 9) (hlen : ∀ y ∈ W, y.length ≤ 100) (hgood : ∀ y ∈ W, gL (cl y))
    (Q : Flow → Shared → Prop) (E : Value → Shared → Prop)
    (hq : ∀ (Td : Addr) (tv : List Value) (tn : Nat) (c3' : Obj) (h' : Heap) (tk' : Nat), StrsAre tv W → Fr h₀ L h' m → c3'.data = .cell (some (.ref Td)) → @LT.lt Nat _ Pl Td →
      News h₀ L h' [(Td, listOf tv.toArray tn), (Pl, listOf pv.toArray pn), (Wd, listOf wv.toArray wn), (L + 1 + 1 + 1, c3'), (L + 1 + 1, c2), (L + 1, c1)] → Q .next { s with heap := h', toks := tk' }) :
    wpAny (model PG w) (callerA.deeper (LENV L fa cd)) (exec (STM 2) (LENV L fa cd)) Q E s := by
  show wpAny _ _ (exec (Stmt.Assign _ _ _) _) _ _ _
  dsimp only [LENV, LAWD, codeOf]
  k_steps
  refine ⟨?_⟩
  k_dflt (refine LCg.CompSrc.range (by rfl) (by k_asm) (by k_asm) (by assumption) (small_n hn) (by exact rangeSize_nat _ _) (size_n hn) ?_)
  intro g'
  refine' kct_range (LG W) (fun k' t' I' oI' C' oC' D' m' ys' h' tk' E' hlo' hhi' hC' hx' F' N' off' ne' hMark' => ?_) ?_
  · (try simp only [LCg.Off3, and_true] at off')
    obtain ⟨⟨_, _, _⟩, ⟨_, _, _⟩, ⟨_, _, _⟩, ⟨_, _, _⟩, _, _, _⟩ := id off'
    obtain ⟨_, _, _⟩ := id ne'
    have hkw := lt_rng hhi'
    have hme := mem_get (nat_lt hlo' hkw)
    have hl1 : (W.getD k'.toNat Str.empty).length ≤ 1000 := Nat.le_trans (hlen _ hme) (by decide)
    have hg1 : gL (cl (W.getD k'.toNat Str.empty)) := hgood _ hme
    have hz0 := add_sz (qF_600 (hlen _ hme)) k'
    clear hme
    k_steps
    exact ⟨rfl, _, rfl⟩
  · unfold KPfDone
    intro ys hC hL
    rw [rng_n] at hC
    have hs2 : StrsAre ys.toArray.toList ((rangeKs 0 W.length).map (LG W)) := CarriedAll.strsOf hC
    have hz1 := lines_sz W hlen hn9
    dsimp only
    k_steps
    refine ⟨?_⟩
    refine' split_C w mean mg mb _ (LINE W W.length) _ (lineL (W.map cl) 0) (W.map cl) (line_mk W rfl) (line_len W hlen _ hn9) (line_pos W rfl hn5) (line_toks W hgood) ?hl _ _ _ _ _ _ _ _ _ _ _ _ _ _ _ _ ?k1 ?k2 ?k3 ?k4 ?k5 ?k6 ?k7 ?k8 ?_
    (case k1 => k_asm)
    (case k2 => k_asm)
    (case k3 => k_asm)
    (case k4 => k_asm)
    (case k5 => k_asm)
    (case k6 => exact rfl)
    (case k7 => ktr_room)
    (case k8 => ktr_units)
    (case hl => (rw [List.length_map]; exact Nat.le_trans hn9 (by decide)))
    intro Sx vs n h2 tk2 hv F2 N2 l2
    rw [map_back] at hv
    k_lt l2
    k_sweep
    k_steps
    rename_i F4 N4 d4
    exact hq Sx vs n _ _ _ hv F4 d4 l2.2.1 (cut2 N4)
end LT1_

section LT2_
theorem lines_58 : True := by
  k_with_none
  k_with "call builtin:issubclass" => (k_here; (with_reducible show wpAny _ _ (call (Value.builtin "issubclass") [Value.type "str", Value.ref _]) _ _ _); k_dflt (refine' issub_K ?k1 ?k2 ?_; (case k1 => k_asm); (case k2 => k_mem); k_whole); intro _)
  k_with "call ref" => (k_here; (with_reducible show wpAny _ _ (call (Value.ref 117) [Value.str _ _]) _ _ _); k_dflt (refine' TClaim.use (fspath_C _ _ _ _ _ _ _) ?k1 ?k2 ?k3 ?k4 ?k5 ?k6 ?k7 ?k8 ?_; (case k1 => k_asm); (case k2 => k_asm); (case k3 => k_asm); (case k4 => k_asm); (case k5 => k_asm); (case k6 => first | exact rfl | assumption); (case k7 => ktr_room); (case k8 => ktr_units); k_whole); (intro _ _ _ _); (try k_sweep))
  k_with "call ref" => ((k_here; (with_reducible show wpAny _ _ (call (Value.ref 145) [Value.str _ _]) _ _ _); k_dflt (refine' TClaim.use (splitroot_C _ _ _ _ _ _ _ (by kt_len)) ?k1 ?k2 ?k3 ?k4 ?k5 ?k6 ?k7 ?k8 ?_; (case k1 => k_asm); (case k2 => k_asm); (case k3 => k_asm); (case k4 => k_asm); (case k5 => k_asm); (case k6 => first | exact rfl | assumption); (case k7 => ktr_room); (case k8 => ktr_units); k_whole); (intro _ _ _ _ _ _ _ _ e1 e2 _ _ l1 _); (try k_lt l1); (subst e1 e2); (try k_sweep)); (try (revert l1; intro _)))
  k_with "call builtin:str.split" => ((k_here; (with_reducible show wpAny _ _ (call (Value.builtin "str.split") [Value.str _ _, Value.str (PySem.Str.ofString "/") _]) _ _ _); (refine KSpl.split1 (by k_asm) (by k_asm) (by decide) ?_ (by rw [PySem.sizeLine_eq]; omega)); (intro _ _ _ _ _ _ _ _ l1); (try k_lt l1)); (try (revert l1; intro _)))
  k_with "call builtin:list.append" => (k_here; (with_reducible show wpAny _ _ (call (Value.builtin _) [Value.ref _, _]) _ _ _); k_dflt (refine' append_L ?k1 ?k2 ?k3 ?z ?_; (case k1 => k_asm); (case k2 => k_asm); (case k3 => k_upd); (case z => with_reducible assumption); k_whole); intro _ _ _; (try k_sweep))
  k_with "call builtin:list.pop" => (k_here; k_dflt (refine' pop_snoc ?k1 ?k2 ?k3 ?z ?_; (case k1 => k_asm); (case k2 => k_asm); (case k3 => k_upd); (case z => with_reducible assumption); k_whole); intro _ _ _; (try k_sweep))
  k_with "subscriptTail Name UnaryOp ref int" => (k_here; (with_reducible show wpAny _ _ (subscriptTail _ _ (Value.ref _) (Value.int _ _)) _ _ _); (with_unfolding_all refine' last_snoc ?k1 ?k2 ?_ ?k3 ?k4; (case k1 => k_asm); (case k2 => k_mem); (case k3 => with_unfolding_all rfl); (case k4 => (intro _; with_unfolding_all rfl)); k_whole))
  k_with "truthy ref" => (k_here; (with_reducible show wpAny _ _ (truthy (Value.ref _)) _ _ _); k_dflt (refine' truthy_strs ?k1 ?k2 ?k3 ?k4 ?g0 ?g1; (case k1 => k_asm); (case k2 => k_mem); (case k3 => with_reducible assumption); (case k4 => with_reducible assumption)); (case' g0 => (intro e1 _; subst e1)); (case' g1 => (intro _ _ _ _ e1 _ _; subst e1)))
  k_with "truthy ref" => (k_here; (with_reducible show wpAny _ _ (truthy (Value.ref _)) _ _ _); k_dflt (refine' truthy_snoc ?k1 ?k2 ?k4 ?_; (case k1 => k_asm); (case k2 => k_mem); (case k4 => with_reducible assumption); k_whole))
  k_with "TPost" => (dsimp only [TPost])
  trivial
theorem lines_59 : True := by
  k_with "truthy str" => (k_here; (with_reducible show wpAny _ _ (PySem.truthy (Value.str _ _)) _ _ _); (refine' KXt.truthy_pos ?kxta ?kxtb ?kxtc ?_; (case kxta => with_reducible assumption); (case kxtb => with_reducible assumption); (case kxtc => exact Nat.le_of_ble_eq_true rfl)); intro _)
  k_with "call builtin:str.join" => (k_here; (with_reducible show wpAny _ _ (call (Value.builtin "str.join") [Value.str _ _, Value.ref _]) _ _ _); k_dflt (refine' join_listC ?k1 ?k2 ?k3 ?k4 ?_; (case k1 => exact News.isList (by k_asm) (by k_mem)); (case k2 => with_reducible assumption); (case k3 => decide); (case k4 => with_reducible assumption); k_whole); intro _ _)
  k_with "binaryOp Add str str" => (k_here; (with_reducible show wpAny _ _ (binaryOp Operator.Add (Value.str _ _) (Value.str _ _)) _ _ _); (refine' PyProof.Rows.add_str ?_ ?z; (case z => with_reducible assumption)); intro _ _)
  k_with "MY enter" => (refine' code_def ?k1 ?k2 ?k3 ?k4 ?k5 ?kA ?kF ?kK ?k6 ?k7 ?k8 ?k9 ?kB ?_ ?c2 ?c3 ?c4 ?c5; (case kA => exact rfl); (case kF => exact rfl); (case kK => first | assumption | exact rfl); (case k1 => k_asm); (case k2 => k_asm); (case k3 => k_asm); (case k4 => k_asm); (case k5 => k_asm); (case k6 => k_is); (case k7 => k_is); (case k8 => ktr_room); (case k9 => first | exact BindsTo.of_eq rfl | exact binds_K (by k_in) rfl (by k_is) rfl rfl rfl); (case c5 => decide); (case kB => exact locs rfl); (case c2 => exact rfl); (case c3 => exact rfl); (case c4 => exact rfl); k_whole; intro _ _ _ _ _ _ _ _ _; (try dsimp only); (try k_fold))
  k_with "compareOp Is" => (k_here; (with_reducible show wpAny _ _ (compareOp CmpOp.Is (Value.str _ _) (Value.ref _)) _ _ _); refine wpAny_is_other (by rfl) (by intro x; cases x) ?_)
  k_with "exec For Name Name cons nil" => (k_here; (with_unfolding_all refine' For_turns (by k_asm) ?_; k_whole))
  trivial
theorem lines_60 : True := by
  k_with "exec If" => (k_here; refine wpAny_If ?_)
  k_with "CompSrc" => (k_here; (with_reducible show LCg.CompSrc _ _ _ _ _ _ _ _ _ _ _ _ _ _); refine heldC ?_)
  k_with "call builtin:len" => (k_here; (with_reducible show wpAny _ _ (call (Value.builtin "len") [Value.ref _]) _ _ _); k_dflt (refine' len_S ?k1 ?k2 ?k3 ?k4 ?_; (case k1 => k_asm); (case k2 => k_mem); (case k3 => with_reducible assumption); (case k4 => with_reducible assumption); k_whole); (intro _ _))
  k_with "subscriptTail Name Name ref int" => (k_here; (with_reducible show wpAny _ _ (subscriptTail _ _ (Value.ref _) (Value.int _ _)) _ _ _); (with_unfolding_all refine' item_S ?k1 ?k2 ?k3 ?k4 ?k5 ?k6 ?_ ?k7; (case k1 => k_asm); (case k2 => k_mem); (case k3 => with_reducible assumption); (case k4 => with_reducible assumption); (case k5 => with_reducible assumption); (case k6 => with_reducible assumption); (case k7 => with_unfolding_all rfl); k_whole); (intro _))
  k_with "call ref" => (k_here; (with_reducible show wpAny _ _ (call (Value.ref 869) [Value.str _ _]) _ _ _); k_dflt (refine' TClaim.use (quote_C _ _ _ _ _ _ _ (by with_reducible assumption) (by with_reducible assumption)) ?k1 ?k2 ?k3 ?k4 ?k5 ?k6 ?k7 ?k8 ?_; (case k1 => k_asm); (case k2 => k_asm); (case k3 => k_asm); (case k4 => k_asm); (case k5 => k_asm); (case k6 => first | exact rfl | assumption); (case k7 => ktr_room); (case k8 => ktr_units); k_whole); (intro _ _ _ _ _); (try k_sweep))
  k_with "call ref" => (k_here; (with_reducible show wpAny _ _ (call (Value.ref 861) [Value.str _ _]) _ _ _); refine heldC ?_)
  k_with "binaryOp Mult str int" => (k_here; (with_reducible show wpAny _ _ (binaryOp Operator.Mult (Value.str _ _) (Value.int _ _)) _ _ _); (refine mul_BL ?_); intro _ _)
  trivial
section
variable {prog : Program} {w : World} {A : Around} {E : Value → Shared → Prop} {s : Shared} {h₀ : Heap} {L : Addr} {m : Str → Option Value} {news : List (Addr × Obj)}
theorem strs_take : ∀ {vs : List Value} {xs : List Str}, StrsAre vs xs → ∀ n, StrsAre (vs.take n) (xs.take n)
  | _, _, .nil, n => by rw [List.take_nil, List.take_nil]; exact .nil
  | _, _, .cons y t r, 0 => .nil
  | _, _, .cons y t r, n + 1 => .cons y t (strs_take r n)
theorem strs_drop : ∀ {vs : List Value} {xs : List Str}, StrsAre vs xs → ∀ n, StrsAre (vs.drop n) (xs.drop n)
  | _, _, .nil, n => by rw [List.drop_nil, List.drop_nil]; exact .nil
  | _, _, .cons y t r, 0 => .cons y t r
  | _, _, .cons y t r, n + 1 => strs_drop r n
theorem pick_to (ws : List Value) {k : Int} (h : 0 ≤ k) : slicePick ws.toArray none (some k) none = (ws.take k.toNat).toArray := by
  have := slicePick_upto' ws.toArray k.toNat
  rw [show ((k.toNat : Nat) : Int) = k from by omega] at this
  simpa using this
theorem pick_from (ws : List Value) {k : Int} (h : 0 ≤ k) : slicePick ws.toArray (some k) none none = (ws.drop k.toNat).toArray := by
  have := slicePick_from' ws.toArray k.toNat
  rw [show ((k.toNat : Nat) : Int) = k from by omega] at this
  simpa using this
theorem last_S {value slice : Expr} {a : Addr} {vs : List Value} {xs : List Str} {n : Nat} {u : Tok} {Q : Value → Shared → Prop} (N : News h₀ L s.heap news) (hm : (a, listOf vs.toArray n) ∈ news) (hv : StrsAre vs xs) (h1 : 1 ≤ xs.length) (h : ∀ t, Q (.str (xs.getD (xs.length - 1) Str.empty) t) s)
    (hs : subscripted slice false (.ref a) (.int (-1) u) = operate [.ref a, .int (-1) u] (getItem (.ref a) (.int (-1) u)) := by with_unfolding_all rfl) (hg : ∀ r, letTemporaryGo value (.ref a) r = pure () := by intro _; with_unfolding_all rfl) :
    wpAny (model prog w) A (subscriptTail value slice (.ref a) (.int (-1) u)) Q E s := by
  have hl := StrsAre.length hv
  obtain ⟨t, ht⟩ := strs_at hv (xs.length - 1) (by omega)
  refine kim_back (l := vs) N hm rfl rfl (by decide) (by omega) (by decide) ?_ (h t) hs hg
  have e : ((-1 : Int) + (vs.length : Int)).toNat = xs.length - 1 := by omega
  rw [e]; exact ht
theorem ne_S {a b : Addr} {xs ys : List Value} {n k : Nat} {ns : List Str} {Q : Value → Shared → Prop} (N : News h₀ L s.heap news) (ha : (a, listOf xs.toArray n) ∈ news) (hb : (b, listOf ys.toArray k) ∈ news) (hi : StrsAre xs ns) (hj : StrsAre ys ns) (ok : OkAll ns) (hu : A.units + 64 < cLine) (h : Q (.bool false) s) :
    wpAny (model prog w) A (compareOp .NotEq (.ref a) (.ref b)) Q E s := by
  refine se_ne (News.isList N ha) (News.isList N hb) hi hj ok ok hu ?_
  rw [decide_eq_true rfl]; exact h
theorem eq_S {a b : Addr} {xs ys : List Value} {n k : Nat} {ns : List Str} {Q : Value → Shared → Prop} (N : News h₀ L s.heap news) (ha : (a, listOf xs.toArray n) ∈ news) (hb : (b, listOf ys.toArray k) ∈ news) (hi : StrsAre xs ns) (hj : StrsAre ys ns) (ok : OkAll ns) (hu : A.units + 64 < cLine) (h : Q (.bool true) s) :
    wpAny (model prog w) A (compareOp .Eq (.ref a) (.ref b)) Q E s := by
  refine se_eq (News.isList N ha) (News.isList N hb) hi hj ok ok hu ?_
  rw [decide_eq_true rfl]; exact h
theorem wt1_le : ∀ (l : List Str), (∀ y ∈ l, y.length ≤ 100) → wt1 l ≤ l.length * 101
  | [], _ => Nat.zero_le _
  | x :: l, h => by
    have h1 := wt1_le l fun y hy => h y (.tail _ hy)
    have h2 := h x (.head _)
    have e : wt1 (x :: l) = x.length + 1 + wt1 l := by simp [wt1]
    rw [e, List.length_cons]
    omega
end
theorem take_wt {W : List Str} (hn9 : W.length ≤ 9) (hlen : ∀ y ∈ W, y.length ≤ 100) (k : Nat) : wt1 (W.take k) ≤ 1000 := by
  have := wt1_le (W.take k) fun y hy => hlen y (List.take_subset _ _ hy)
  rw [List.length_take] at this
  omega
theorem drop_wt {W : List Str} (hn9 : W.length ≤ 9) (hlen : ∀ y ∈ W, y.length ≤ 100) (k : Nat) : wt1 (W.drop k) ≤ 1000 := by
  have := wt1_le (W.drop k) fun y hy => hlen y (List.drop_subset _ _ hy)
  rw [List.length_drop] at this
  omega
theorem sum_wt {i : Str} {l : List Str} (h1 : i.length ≤ 70000) (h2 : wt1 l ≤ 1000) : i.length + wt1 l ≤ 100000 := by omega
theorem fold_wt {i : Str} {l : List Str} (h1 : i.length ≤ 70000) (h2 : wt1 l ≤ 1000) : (l.foldl joinF i).length ≤ 100000 := by
  have := foldJ_len l i
  omega
theorem places_le {W : List Str} (hn9 : W.length ≤ 9) : (PLACES W).length ≤ 1000000 := by
  have := places_len W
  omega
theorem size_strs {W : List Str} {tv : List Value} (ht : StrsAre tv W) (hn9 : W.length ≤ 9) : tv.length ≤ sizeLine := by
  have := StrsAre.length ht
  rw [PySem.sizeLine_eq]; omega
theorem lines_61 : True := by
  k_with "compareOp NotEq ref ref" => (k_here; (with_reducible show wpAny _ _ (compareOp CmpOp.NotEq (Value.ref _) (Value.ref _)) _ _ _); k_dflt (refine' ne_S ?k1 ?k2 ?k3 ?k4 ?k5 ?k6 ?k7 ?_; (case k1 => k_asm); (case k2 => k_mem); (case k3 => k_mem); (case k4 => with_reducible assumption); (case k5 => first | with_reducible assumption | exact strs_rep _); (case k6 => with_reducible assumption); (case k7 => ke_room); k_whole))
  k_with "compareOp Eq ref ref" => (k_here; (with_reducible show wpAny _ _ (compareOp CmpOp.Eq (Value.ref _) (Value.ref _)) _ _ _); k_dflt (refine' eq_S ?k1 ?k2 ?k3 ?k4 ?k5 ?k6 ?k7 ?_; (case k1 => k_asm); (case k2 => k_mem); (case k3 => k_mem); (case k4 => with_reducible assumption); (case k5 => first | with_reducible assumption | exact strs_rep _); (case k6 => with_reducible assumption); (case k7 => ke_room); k_whole))
  k_with "subscriptTail Name Slice ref ref" => ((k_here; (first | refine' slice_G ?k1 ?k2 ?k3 .none (.int _ _) (pick_to _ ?k4) ?kz ?_ | refine' slice_G ?k1 ?k2 ?k3 (.int _ _) .none (pick_from _ ?k4) ?kz ?_); (case k1 => k_asm); (case k2 => k_asm); (case k3 => k_mem); (case k4 => with_reducible assumption); (case kz => with_reducible assumption); k_whole; (intro _ _ _ _ l1); (try k_lt l1); (try k_sweep)); (try (revert l1; intro _)))
  k_with "call ref" => (k_here; (with_reducible show wpAny _ _ (call (Value.ref 161) [Value.ref 138, Value.ref _, Value.str _ _]) _ _ _); k_dflt (refine' TClaim.use (reduce_C _ _ _ _ _ _ _ _ _ _ _ (by with_reducible assumption) (by with_reducible assumption) (by with_reducible assumption)) ?k1 ?k2 ?k3 ?k4 ?k5 ?k6 ?k7 ?k8 ?_; (case k1 => k_asm); (case k2 => k_asm); (case k3 => k_asm); (case k4 => k_asm); (case k5 => k_asm); (case k6 => first | exact rfl | assumption); (case k7 => ktr_room); (case k8 => ktr_units); k_whole); (intro _ _ _ _ _); (try k_sweep))
  k_with "call ref" => (k_here; (with_reducible show wpAny _ _ (call (Value.ref 152) [Value.str _ _]) _ _ _); k_dflt (refine' TClaim.use (normpath_C _ _ _ _ _ _ _ (by with_reducible assumption) (by with_reducible assumption) (by with_reducible assumption)) ?k1 ?k2 ?k3 ?k4 ?k5 ?k6 ?k7 ?k8 ?_; (case k1 => k_asm); (case k2 => k_asm); (case k3 => k_asm); (case k4 => k_asm); (case k5 => k_asm); (case k6 => first | exact rfl | assumption); (case k7 => ktr_room); (case k8 => ktr_units); k_whole); (intro _ _ _ _ _); (try k_sweep))
  k_with "subscriptTail Name UnaryOp ref int" => (k_here; (with_reducible show wpAny _ _ (subscriptTail _ _ (Value.ref _) (Value.int _ _)) _ _ _); (with_unfolding_all refine' last_S ?k1 ?k2 ?k5 ?k6 ?_ ?k3 ?k4; (case k1 => k_asm); (case k2 => k_mem); (case k5 => with_reducible assumption); (case k6 => with_reducible assumption); (case k3 => with_unfolding_all rfl); (case k4 => (intro _; with_unfolding_all rfl)); k_whole); intro _)
  k_with "binaryOp Mult ref int" => ((k_here; (with_reducible show wpAny _ _ (binaryOp Operator.Mult (Value.ref _) (Value.int _ _)) _ _ _); k_dflt (refine' mul_S ?k1 ?k2 ?k3 ?k4 ?k5 ?_; (case k1 => k_asm); (case k2 => k_asm); (case k3 => k_mem); (case k4 => with_reducible assumption); (case k5 => with_reducible assumption); k_whole); (intro _ _ _ _ l1); (try k_lt l1); (try k_sweep)); (try (revert l1; intro _)))
  k_with "CompEnd" => (k_here; refine heldC ?_)
  trivial
theorem st_ne (w : World) (mean : ExcName → Option Value) (mg mb : Str → Option Value) (fa : Addr) (cd : Value) (h₀ : Heap) (L : Addr) (m : Str → Option Value) (s : Shared) (W : List Str) (Td Pl Wd : Addr) (tv pv wv : List Value) (tn pn wn : Nat) (c1 c2 c3 : Obj)
    (B : Below callerA h₀ [] h₀) (F : Fr h₀ L s.heap m) (X : (hd.heap_39 w.params).In h₀) (T : Top hd.view_39 LS mean mg mb h₀)
    (N : News h₀ L s.heap [(Td, listOf tv.toArray tn), (Pl, listOf pv.toArray pn), (Wd, listOf wv.toArray wn), (L + 1 + 1 + 1, c3), (L + 1 + 1, c2), (L + 1, c1)])
    (d1 : c1.data = .cell (some (.ref Wd))) (d2 : c2.data = .cell (some (.ref Pl))) (d3 : c3.data = .cell (some (.ref Td))) (ht : StrsAre tv W) (hw : StrsAre wv W) (ok : OkAll W)
    (Q : Flow → Shared → Prop) (E : Value → Shared → Prop)
    (hq : ∀ (h' : Heap) (tk' : Nat), Fr h₀ L h' m →
      News h₀ L h' [(Td, listOf tv.toArray tn), (Pl, listOf pv.toArray pn), (Wd, listOf wv.toArray wn), (L + 1 + 1 + 1, c3), (L + 1 + 1, c2), (L + 1, c1)] → Q .next { s with heap := h', toks := tk' }) :
    wpAny (model PG w) (callerA.deeper (LENV L fa cd)) (exec (STM 3) (LENV L fa cd)) Q E s := by
  show wpAny _ _ (exec (Stmt.If _ _ _ _) _) _ _ _
  dsimp only [LENV, LAWD, codeOf]
  k_steps
  exact hq _ _ (by assumption) (by assumption)
theorem st_A (w : World) (mean : ExcName → Option Value) (mg mb : Str → Option Value) (fa : Addr) (cd : Value) (h₀ : Heap) (L : Addr) (m : Str → Option Value) (s : Shared) (W : List Str) (Td Pl Wd : Addr) (tv pv wv : List Value) (tn pn wn : Nat) (c1 c2 c3 : Obj)
    (B : Below callerA h₀ [] h₀) (F : Fr h₀ L s.heap m) (X : (hd.heap_39 w.params).In h₀) (T : Top hd.view_39 LS mean mg mb h₀)
    (N : News h₀ L s.heap [(Td, listOf tv.toArray tn), (Pl, listOf pv.toArray pn), (Wd, listOf wv.toArray wn), (L + 1 + 1 + 1, c3), (L + 1 + 1, c2), (L + 1, c1)])
    (o1 : @LT.lt Nat _ (L + 1 + 1 + 1) Wd) (o2 : @LT.lt Nat _ Wd Pl) (o3 : @LT.lt Nat _ Pl Td)
    (d1 : c1.data = .cell (some (.ref Wd))) (d2 : c2.data = .cell (some (.ref Pl))) (d3 : c3.data = .cell (some (.ref Td))) (ht : StrsAre tv W) (hp : StrsAre pv (PLACES W)) (ok : OkAll (PLACES W))
    (hn9 : W.length ≤ 9) (hlen : ∀ y ∈ W, y.length ≤ 100)
    (Q : Flow → Shared → Prop) (E : Value → Shared → Prop)
    (hq : ∀ (h' : Heap) (tk' : Nat), Fr h₀ L h' m →
      News h₀ L h' [(Td, listOf tv.toArray tn), (Pl, listOf pv.toArray pn), (Wd, listOf wv.toArray wn), (L + 1 + 1 + 1, c3), (L + 1 + 1, c2), (L + 1, c1)] → Q .next { s with heap := h', toks := tk' }) :
    wpAny (model PG w) (callerA.deeper (LENV L fa cd)) (exec (STM 4) (LENV L fa cd)) Q E s := by
  show wpAny _ _ (exec (Stmt.If _ _ _ _) _) _ _ _
  dsimp only [LENV, LAWD, codeOf]
  have hpl := places_len W
  have hp6 := places_le hn9
  have htl := size_strs ht hn9
  k_steps
  refine ⟨?_⟩
  k_dflt (refine LCg.CompSrc.range (by rfl) (by k_asm) (by k_asm) (by assumption) (small_n hp6) (by exact rangeSize_nat _ _) (size_n hp6) ?_)
  intro g'
  refine' kct_range (fun k => normF ((W.take k.toNat).foldl joinF (Str.ofString "/"))) (fun k' t' I' oI' C' oC' D' m' ys' h' tk' E' hlo' hhi' hC' hx' F' N' off' ne' hMark' => ?_) ?_
  · (try simp only [LCg.Off3, and_true] at off')
    have ht1 := strs_take ht k'.toNat
    have a1 : 1 ≤ (Str.ofString "/").length := by decide +kernel
    have a2 : (Str.ofString "/").length ≤ 70000 := by decide +kernel
    have a3 := take_wt hn9 hlen k'.toNat
    have a4 := sum_wt a2 a3
    have a5 := fold_wt a2 a3
    have a6 := goA_pos W k'.toNat
    have a7 := goA_root W k'.toNat
    dsimp only
    k_steps
    refine ⟨?_⟩
    refine' LCg.CompEnd.intro ?F ?N [(Td, listOf tv.toArray tn), (Pl, listOf pv.toArray pn), (Wd, listOf wv.toArray wn), (L + 1 + 1 + 1, c3), (L + 1 + 1, c2), (L + 1, c1)] ?sub ?off ?S ?el
    (case el => exact ⟨rfl, _, rfl⟩)
    (case F => assumption)
    (case N => assumption)
    (case off => (simp only [LCg.Off3, and_true]; exact off'))
    (case sub => kcj_all)
    (case S => trivial)
  · unfold KPfDone
    intro ys hC hL
    rw [rng_n] at hC
    have hs2 : StrsAre ys (PLACES W) := by
      have := CarriedAll.strsOf hC
      rwa [eqA W hpl] at this
    dsimp only
    k_steps
    rename_i F4 N4 z4
    exact hq _ _ F4 fun p hp => N4 p (.tail _ hp)
end LT2_

section LT3_
theorem lines_62 : True := by
  k_with_none
  k_with "call builtin:issubclass" => (k_here; (with_reducible show wpAny _ _ (call (Value.builtin "issubclass") [Value.type "str", Value.ref _]) _ _ _); k_dflt (refine' issub_K ?k1 ?k2 ?_; (case k1 => k_asm); (case k2 => k_mem); k_whole); intro _)
  k_with "call ref" => (k_here; (with_reducible show wpAny _ _ (call (Value.ref 117) [Value.str _ _]) _ _ _); k_dflt (refine' TClaim.use (fspath_C _ _ _ _ _ _ _) ?k1 ?k2 ?k3 ?k4 ?k5 ?k6 ?k7 ?k8 ?_; (case k1 => k_asm); (case k2 => k_asm); (case k3 => k_asm); (case k4 => k_asm); (case k5 => k_asm); (case k6 => first | exact rfl | assumption); (case k7 => ktr_room); (case k8 => ktr_units); k_whole); (intro _ _ _ _); (try k_sweep))
  k_with "call ref" => ((k_here; (with_reducible show wpAny _ _ (call (Value.ref 145) [Value.str _ _]) _ _ _); k_dflt (refine' TClaim.use (splitroot_C _ _ _ _ _ _ _ (by kt_len)) ?k1 ?k2 ?k3 ?k4 ?k5 ?k6 ?k7 ?k8 ?_; (case k1 => k_asm); (case k2 => k_asm); (case k3 => k_asm); (case k4 => k_asm); (case k5 => k_asm); (case k6 => first | exact rfl | assumption); (case k7 => ktr_room); (case k8 => ktr_units); k_whole); (intro _ _ _ _ _ _ _ _ e1 e2 _ _ l1 _); (try k_lt l1); (subst e1 e2); (try k_sweep)); (try (revert l1; intro _)))
  k_with "call builtin:str.split" => ((k_here; (with_reducible show wpAny _ _ (call (Value.builtin "str.split") [Value.str _ _, Value.str (PySem.Str.ofString "/") _]) _ _ _); (refine KSpl.split1 (by k_asm) (by k_asm) (by decide) ?_ (by rw [PySem.sizeLine_eq]; omega)); (intro _ _ _ _ _ _ _ _ l1); (try k_lt l1)); (try (revert l1; intro _)))
  k_with "call builtin:list.append" => (k_here; (with_reducible show wpAny _ _ (call (Value.builtin _) [Value.ref _, _]) _ _ _); k_dflt (refine' append_L ?k1 ?k2 ?k3 ?z ?_; (case k1 => k_asm); (case k2 => k_asm); (case k3 => k_upd); (case z => with_reducible assumption); k_whole); intro _ _ _; (try k_sweep))
  k_with "call builtin:list.pop" => (k_here; k_dflt (refine' pop_snoc ?k1 ?k2 ?k3 ?z ?_; (case k1 => k_asm); (case k2 => k_asm); (case k3 => k_upd); (case z => with_reducible assumption); k_whole); intro _ _ _; (try k_sweep))
  k_with "subscriptTail Name UnaryOp ref int" => (k_here; (with_reducible show wpAny _ _ (subscriptTail _ _ (Value.ref _) (Value.int _ _)) _ _ _); (with_unfolding_all refine' last_snoc ?k1 ?k2 ?_ ?k3 ?k4; (case k1 => k_asm); (case k2 => k_mem); (case k3 => with_unfolding_all rfl); (case k4 => (intro _; with_unfolding_all rfl)); k_whole))
  k_with "truthy ref" => (k_here; (with_reducible show wpAny _ _ (truthy (Value.ref _)) _ _ _); k_dflt (refine' truthy_strs ?k1 ?k2 ?k3 ?k4 ?g0 ?g1; (case k1 => k_asm); (case k2 => k_mem); (case k3 => with_reducible assumption); (case k4 => with_reducible assumption)); (case' g0 => (intro e1 _; subst e1)); (case' g1 => (intro _ _ _ _ e1 _ _; subst e1)))
  k_with "truthy ref" => (k_here; (with_reducible show wpAny _ _ (truthy (Value.ref _)) _ _ _); k_dflt (refine' truthy_snoc ?k1 ?k2 ?k4 ?_; (case k1 => k_asm); (case k2 => k_mem); (case k4 => with_reducible assumption); k_whole))
  k_with "TPost" => (dsimp only [TPost])
  trivial
theorem lines_63 : True := by
  k_with "truthy str" => (k_here; (with_reducible show wpAny _ _ (PySem.truthy (Value.str _ _)) _ _ _); (refine' KXt.truthy_pos ?kxta ?kxtb ?kxtc ?_; (case kxta => with_reducible assumption); (case kxtb => with_reducible assumption); (case kxtc => exact Nat.le_of_ble_eq_true rfl)); intro _)
  k_with "call builtin:str.join" => (k_here; (with_reducible show wpAny _ _ (call (Value.builtin "str.join") [Value.str _ _, Value.ref _]) _ _ _); k_dflt (refine' join_listC ?k1 ?k2 ?k3 ?k4 ?_; (case k1 => exact News.isList (by k_asm) (by k_mem)); (case k2 => with_reducible assumption); (case k3 => decide); (case k4 => with_reducible assumption); k_whole); intro _ _)
  k_with "binaryOp Add str str" => (k_here; (with_reducible show wpAny _ _ (binaryOp Operator.Add (Value.str _ _) (Value.str _ _)) _ _ _); (refine' PyProof.Rows.add_str ?_ ?z; (case z => with_reducible assumption)); intro _ _)
  k_with "MY enter" => (refine' code_def ?k1 ?k2 ?k3 ?k4 ?k5 ?kA ?kF ?kK ?k6 ?k7 ?k8 ?k9 ?kB ?_ ?c2 ?c3 ?c4 ?c5; (case kA => exact rfl); (case kF => exact rfl); (case kK => first | assumption | exact rfl); (case k1 => k_asm); (case k2 => k_asm); (case k3 => k_asm); (case k4 => k_asm); (case k5 => k_asm); (case k6 => k_is); (case k7 => k_is); (case k8 => ktr_room); (case k9 => first | exact BindsTo.of_eq rfl | exact binds_K (by k_in) rfl (by k_is) rfl rfl rfl); (case c5 => decide); (case kB => exact locs rfl); (case c2 => exact rfl); (case c3 => exact rfl); (case c4 => exact rfl); k_whole; intro _ _ _ _ _ _ _ _ _; (try dsimp only); (try k_fold))
  k_with "compareOp Is" => (k_here; (with_reducible show wpAny _ _ (compareOp CmpOp.Is (Value.str _ _) (Value.ref _)) _ _ _); refine wpAny_is_other (by rfl) (by intro x; cases x) ?_)
  k_with "exec For Name Name cons nil" => (k_here; (with_unfolding_all refine' For_turns (by k_asm) ?_; k_whole))
  trivial
theorem lines_64 : True := by
  k_with "exec If" => (k_here; refine wpAny_If ?_)
  k_with "CompSrc" => (k_here; (with_reducible show LCg.CompSrc _ _ _ _ _ _ _ _ _ _ _ _ _ _); refine heldC ?_)
  k_with "call builtin:len" => (k_here; (with_reducible show wpAny _ _ (call (Value.builtin "len") [Value.ref _]) _ _ _); k_dflt (refine' len_S ?k1 ?k2 ?k3 ?k4 ?_; (case k1 => k_asm); (case k2 => k_mem); (case k3 => with_reducible assumption); (case k4 => with_reducible assumption); k_whole); (intro _ _))
  k_with "subscriptTail Name Name ref int" => (k_here; (with_reducible show wpAny _ _ (subscriptTail _ _ (Value.ref _) (Value.int _ _)) _ _ _); (with_unfolding_all refine' item_S ?k1 ?k2 ?k3 ?k4 ?k5 ?k6 ?_ ?k7; (case k1 => k_asm); (case k2 => k_mem); (case k3 => with_reducible assumption); (case k4 => with_reducible assumption); (case k5 => with_reducible assumption); (case k6 => with_reducible assumption); (case k7 => with_unfolding_all rfl); k_whole); (intro _))
  k_with "call ref" => (k_here; (with_reducible show wpAny _ _ (call (Value.ref 869) [Value.str _ _]) _ _ _); k_dflt (refine' TClaim.use (quote_C _ _ _ _ _ _ _ (by with_reducible assumption) (by with_reducible assumption)) ?k1 ?k2 ?k3 ?k4 ?k5 ?k6 ?k7 ?k8 ?_; (case k1 => k_asm); (case k2 => k_asm); (case k3 => k_asm); (case k4 => k_asm); (case k5 => k_asm); (case k6 => first | exact rfl | assumption); (case k7 => ktr_room); (case k8 => ktr_units); k_whole); (intro _ _ _ _ _); (try k_sweep))
  k_with "call ref" => (k_here; (with_reducible show wpAny _ _ (call (Value.ref 861) [Value.str _ _]) _ _ _); refine heldC ?_)
  k_with "binaryOp Mult str int" => (k_here; (with_reducible show wpAny _ _ (binaryOp Operator.Mult (Value.str _ _) (Value.int _ _)) _ _ _); (refine mul_BL ?_); intro _ _)
  k_with "compareOp NotEq ref ref" => (k_here; (with_reducible show wpAny _ _ (compareOp CmpOp.NotEq (Value.ref _) (Value.ref _)) _ _ _); k_dflt (refine' ne_S ?k1 ?k2 ?k3 ?k4 ?k5 ?k6 ?k7 ?_; (case k1 => k_asm); (case k2 => k_mem); (case k3 => k_mem); (case k4 => with_reducible assumption); (case k5 => first | with_reducible assumption | exact strs_rep _); (case k6 => with_reducible assumption); (case k7 => ke_room); k_whole))
  k_with "compareOp Eq ref ref" => (k_here; (with_reducible show wpAny _ _ (compareOp CmpOp.Eq (Value.ref _) (Value.ref _)) _ _ _); k_dflt (refine' eq_S ?k1 ?k2 ?k3 ?k4 ?k5 ?k6 ?k7 ?_; (case k1 => k_asm); (case k2 => k_mem); (case k3 => k_mem); (case k4 => with_reducible assumption); (case k5 => first | with_reducible assumption | exact strs_rep _); (case k6 => with_reducible assumption); (case k7 => ke_room); k_whole))
  k_with "subscriptTail Name Slice ref ref" => ((k_here; (first | refine' slice_G ?k1 ?k2 ?k3 .none (.int _ _) (pick_to _ ?k4) ?kz ?_ | refine' slice_G ?k1 ?k2 ?k3 (.int _ _) .none (pick_from _ ?k4) ?kz ?_); (case k1 => k_asm); (case k2 => k_asm); (case k3 => k_mem); (case k4 => with_reducible assumption); (case kz => with_reducible assumption); k_whole; (intro _ _ _ _ l1); (try k_lt l1); (try k_sweep)); (try (revert l1; intro _)))
  k_with "call ref" => (k_here; (with_reducible show wpAny _ _ (call (Value.ref 161) [Value.ref 138, Value.ref _, Value.str _ _]) _ _ _); k_dflt (refine' TClaim.use (reduce_C _ _ _ _ _ _ _ _ _ _ _ (by with_reducible assumption) (by with_reducible assumption) (by with_reducible assumption)) ?k1 ?k2 ?k3 ?k4 ?k5 ?k6 ?k7 ?k8 ?_; (case k1 => k_asm); (case k2 => k_asm); (case k3 => k_asm); (case k4 => k_asm); (case k5 => k_asm); (case k6 => first | exact rfl | assumption); (case k7 => ktr_room); (case k8 => ktr_units); k_whole); (intro _ _ _ _ _); (try k_sweep))
  k_with "call ref" => (k_here; (with_reducible show wpAny _ _ (call (Value.ref 152) [Value.str _ _]) _ _ _); k_dflt (refine' TClaim.use (normpath_C _ _ _ _ _ _ _ (by with_reducible assumption) (by with_reducible assumption) (by with_reducible assumption)) ?k1 ?k2 ?k3 ?k4 ?k5 ?k6 ?k7 ?k8 ?_; (case k1 => k_asm); (case k2 => k_asm); (case k3 => k_asm); (case k4 => k_asm); (case k5 => k_asm); (case k6 => first | exact rfl | assumption); (case k7 => ktr_room); (case k8 => ktr_units); k_whole); (intro _ _ _ _ _); (try k_sweep))
  k_with "subscriptTail Name UnaryOp ref int" => (k_here; (with_reducible show wpAny _ _ (subscriptTail _ _ (Value.ref _) (Value.int _ _)) _ _ _); (with_unfolding_all refine' last_S ?k1 ?k2 ?k5 ?k6 ?_ ?k3 ?k4; (case k1 => k_asm); (case k2 => k_mem); (case k5 => with_reducible assumption); (case k6 => with_reducible assumption); (case k3 => with_unfolding_all rfl); (case k4 => (intro _; with_unfolding_all rfl)); k_whole); intro _)
  k_with "binaryOp Mult ref int" => ((k_here; (with_reducible show wpAny _ _ (binaryOp Operator.Mult (Value.ref _) (Value.int _ _)) _ _ _); k_dflt (refine' mul_S ?k1 ?k2 ?k3 ?k4 ?k5 ?_; (case k1 => k_asm); (case k2 => k_asm); (case k3 => k_mem); (case k4 => with_reducible assumption); (case k5 => with_reducible assumption); k_whole); (intro _ _ _ _ l1); (try k_lt l1); (try k_sweep)); (try (revert l1; intro _)))
  k_with "CompEnd" => (k_here; refine heldC ?_)
  trivial
theorem ok_rep {v : Str} (n : Nat) (h : PyData.strOk v = true) : OkAll (List.replicate n v) := fun x hx => by rw [(List.mem_replicate.mp hx).2]; exact h
theorem fSt_wt : ∀ (W : List Str) (a : Str × List Str), (∀ y ∈ W, y.length ≤ 100) → a.1.length ≤ 2 → (W.foldl fSt a).1.length ≤ 2 ∧ wt (W.foldl fSt a).2 ≤ wt a.2 + W.length * 7000
  | [], a, _, h => ⟨h, by simp⟩
  | y :: W, a, hl, h => by
    have h1 := rt1_len a.1 y h
    have h2 := wt_sk1 a.2 y (hl y (.head _))
    obtain ⟨b1, b2⟩ := fSt_wt W (fSt a y) (fun z hz => hl z (.tail _ hz)) h1
    refine ⟨b1, ?_⟩
    rw [List.foldl_cons, List.length_cons]
    have : wt (fSt a y).2 ≤ wt a.2 + 7000 := h2
    omega
theorem places_len_le (W : List Str) (hn9 : W.length ≤ 9) (hlen : ∀ y ∈ W, y.length ≤ 100) (k : Nat) (h : k ≤ W.length) : (PATK W k).length ≤ 70000 := by
  obtain ⟨b1, b2⟩ := fSt_wt (W.take k) a00 (fun y hy => hlen y (List.take_subset _ _ hy)) (by decide +kernel)
  have b3 := join_len_wt (Str.ofString "/") (by decide +kernel) ((W.take k).foldl fSt a00).2
  have b4 : wt a00.2 = 0 := rfl
  rw [List.length_take] at b2
  rw [patk W k h]
  show (((W.take k).foldl fSt a00).1 ++ Txt.join (Str.ofString "/") ((W.take k).foldl fSt a00).2).length ≤ _
  rw [Str.length_append]
  omega
theorem st_B (w : World) (mean : ExcName → Option Value) (mg mb : Str → Option Value) (fa : Addr) (cd : Value) (h₀ : Heap) (L : Addr) (m : Str → Option Value) (s : Shared) (W : List Str) (Td Pl Wd : Addr) (tv pv wv : List Value) (tn pn wn : Nat) (c1 c2 c3 : Obj)
    (B : Below callerA h₀ [] h₀) (F : Fr h₀ L s.heap m) (X : (hd.heap_39 w.params).In h₀) (T : Top hd.view_39 LS mean mg mb h₀)
    (N : News h₀ L s.heap [(Td, listOf tv.toArray tn), (Pl, listOf pv.toArray pn), (Wd, listOf wv.toArray wn), (L + 1 + 1 + 1, c3), (L + 1 + 1, c2), (L + 1, c1)])
    (o1 : @LT.lt Nat _ (L + 1 + 1 + 1) Wd) (o2 : @LT.lt Nat _ Wd Pl) (o3 : @LT.lt Nat _ Pl Td)
    (d1 : c1.data = .cell (some (.ref Wd))) (d2 : c2.data = .cell (some (.ref Pl))) (d3 : c3.data = .cell (some (.ref Td))) (ht : StrsAre tv W) (hp : StrsAre pv (PLACES W)) (ok : OkAll (PLACES W))
    (hn9 : W.length ≤ 9) (hlen : ∀ y ∈ W, y.length ≤ 100)
    (Q : Flow → Shared → Prop) (E : Value → Shared → Prop)
    (hq : ∀ (h' : Heap) (tk' : Nat), Fr h₀ L h' m → Q (.ret (.bool true)) { s with heap := h', toks := tk' }) :
    wpAny (model PG w) (callerA.deeper (LENV L fa cd)) (exec (STM 5) (LENV L fa cd)) Q E s := by
  show wpAny _ _ (exec (Stmt.Return _ _) _) _ _ _
  dsimp only [LENV, LAWD, codeOf]
  have hpl := places_len W
  have hp6 := places_le hn9
  have hp1 : 1 ≤ (PLACES W).length := by rw [hpl]; exact Nat.le_add_left 1 _
  have htl := size_strs ht hn9
  k_steps
  refine ⟨?_⟩
  k_dflt (refine LCg.CompSrc.range (by rfl) (by k_asm) (by k_asm) (by assumption) (small_n hp6) (by exact rangeSize_nat _ _) (size_n hp6) ?_)
  intro g'
  refine' kct_range (fun k => normF ((W.drop k.toNat).foldl joinF ((PLACES W).getD k.toNat Str.empty))) (fun k' t' I' oI' C' oC' D' m' ys' h' tk' E' hlo' hhi' hC' hx' F' N' off' ne' hMark' => ?_) ?_
  · (try simp only [LCg.Off3, and_true] at off')
    have hk1 := lt_rng hhi'
    have hk2 : k'.toNat ≤ W.length := Nat.le_of_lt_succ (Nat.lt_of_lt_of_eq (nat_lt hlo' hk1) hpl)
    have ht1 := strs_drop ht k'.toNat
    have a1 : 1 ≤ ((PLACES W).getD k'.toNat Str.empty).length := patk_pos W k'.toNat hk2
    have a2 : ((PLACES W).getD k'.toNat Str.empty).length ≤ 70000 := places_len_le W hn9 hlen k'.toNat hk2
    have a3 := drop_wt hn9 hlen k'.toNat
    have a4 := sum_wt a2 a3
    have a5 := fold_wt a2 a3
    have a6 : 1 ≤ ((W.drop k'.toNat).foldl joinF ((PLACES W).getD k'.toNat Str.empty)).length := goB_pos W k'.toNat hk2
    have a7 : 1 ≤ (rootOf ((W.drop k'.toNat).foldl joinF ((PLACES W).getD k'.toNat Str.empty))).length := goB_root W k'.toNat hk2
    dsimp only
    k_steps
    refine ⟨?_⟩
    refine' LCg.CompEnd.intro ?F ?N [(Td, listOf tv.toArray tn), (Pl, listOf pv.toArray pn), (Wd, listOf wv.toArray wn), (L + 1 + 1 + 1, c3), (L + 1 + 1, c2), (L + 1, c1)] ?sub ?off ?S ?el
    (case el => exact ⟨rfl, _, rfl⟩)
    (case F => assumption)
    (case N => assumption)
    (case off => (simp only [LCg.Off3, and_true]; exact off'))
    (case sub => kcj_all)
    (case S => trivial)
  · unfold KPfDone
    intro ys hC hL
    rw [rng_n] at hC
    have hs2 : StrsAre ys (List.replicate (PLACES W).length ((PLACES W).getD ((PLACES W).length - 1) Str.empty)) := by
      have := CarriedAll.strsOf hC
      rw [eqB W hpl] at this
      have e : (PLACES W).length - 1 = W.length := by rw [hpl]; exact Nat.add_sub_cancel _ _
      rw [e]; exact this
    have ok2 : OkAll (List.replicate (PLACES W).length ((PLACES W).getD ((PLACES W).length - 1) Str.empty)) := ok_rep _ (ok _ (mem_get (Nat.sub_lt hp1 (by decide))))
    have hx0 : (0 : Int) ≤ ((PLACES W).length : Int) := Int.natCast_nonneg _
    have hx1 : ((PLACES W).length : Int) ≤ 200 := by rw [hpl]; exact Int.ofNat_le.mpr (Nat.le_trans (Nat.succ_le_succ hn9) (by decide))
    clear hpl
    dsimp only
    k_steps
    rename_i F4 N4 z4
    exact hq _ _ F4
end LT3_

section LT4_
theorem st_tail (w : World) (mean : ExcName → Option Value) (mg mb : Str → Option Value) (fa : Addr) (cd : Value) (h₀ : Heap) (L : Addr) (m : Str → Option Value) (s : Shared) (zs : List Int) (Pl Wd : Addr) (pv wv : List Value) (pn wn : Nat) (c1 c2 c3 : Obj) (v3 : Option Value)
    (B : Below callerA h₀ [] h₀) (X : (hd.heap_39 w.params).In h₀) (T : Top hd.view_39 LS mean mg mb h₀) (F : Fr h₀ L s.heap m)
    (N : News h₀ L s.heap [(Pl, listOf pv.toArray pn), (Wd, listOf wv.toArray wn), (L + 1 + 1 + 1, c3), (L + 1 + 1, c2), (L + 1, c1)])
    (d1 : c1.data = .cell (some (.ref Wd))) (d2 : c2.data = .cell (some (.ref Pl))) (d3 : c3.data = .cell v3) (hw : StrsAre wv (WORDS zs)) (hp : StrsAre pv (PLACES (WORDS zs))) (o1 : @LT.lt Nat _ (L + 1 + 1 + 1) Wd) (o2 : @LT.lt Nat _ Wd Pl)
    (Q : Flow → Shared → Prop) (E : Value → Shared → Prop) (hq : ∀ (h' : Heap) (tk' : Nat), Fr h₀ L h' m → Q (.ret (.bool true)) { s with heap := h', toks := tk' }) :
    wpAny (model PG w) (callerA.deeper (LENV L fa cd)) (execs (LAWD.body.drop 2) (LENV L fa cd)) Q E s := by
  have g1 := words_count zs
  have g2 := words_five zs
  have g3 := words_len zs
  have g4 := words_good zs
  have g5 : ∀ y ∈ WORDS zs, gsL (cl y) := fun y hy c hc => good_small (g4 y hy c hc)
  have g6 : OkAll (WORDS zs) := fun y hy => gs_ok (g5 y hy)
  have g7 : OkAll (PLACES (WORDS zs)) := places_ok _ g5
  show wpAny _ _ (execs (STM 2 :: STM 3 :: STM 4 :: STM 5 :: []) _) _ _ _
  refine wpAny_execs_cons (st_told w mean mg mb fa cd h₀ L m s (WORDS zs) Pl Wd pv wv pn wn c1 c2 c3 v3 B F X T N d1 d2 d3 hw o1 o2 (by omega) (by omega) g1 g3 g4 _ E fun Td tv tn c3' h' tk' ht F' d3' o3 N' => ?_)
  show wpAny _ _ (execs _ _) _ _ _
  refine wpAny_execs_cons (st_ne w mean mg mb fa cd h₀ L m _ (WORDS zs) Td Pl Wd tv pv wv tn pn wn c1 c2 c3' B F' X T N' d1 d2 d3' ht hw g6 _ E fun h2 tk2 F2 N2 => ?_)
  show wpAny _ _ (execs _ _) _ _ _
  refine wpAny_execs_cons (st_A w mean mg mb fa cd h₀ L m _ (WORDS zs) Td Pl Wd tv pv wv tn pn wn c1 c2 c3' B F2 X T N2 o1 o2 o3 d1 d2 d3' ht hp g7 g1 g3 _ E fun h3 tk3 F3 N3 => ?_)
  show wpAny _ _ (execs _ _) _ _ _
  refine wpAny_execs_cons (st_B w mean mg mb fa cd h₀ L m _ (WORDS zs) Td Pl Wd tv pv wv tn pn wn c1 c2 c3' B F3 X T N3 o1 o2 o3 d1 d2 d3' ht hp g7 g1 g3 _ E fun h4 tk4 F4 => ?_)
  exact hq h4 tk4 F4
end LT4_

section LT5_
theorem lines_65 : True := by
  k_with_none
  k_with "call builtin:issubclass" => (k_here; (with_reducible show wpAny _ _ (call (Value.builtin "issubclass") [Value.type "str", Value.ref _]) _ _ _); k_dflt (refine' issub_K ?k1 ?k2 ?_; (case k1 => k_asm); (case k2 => k_mem); k_whole); intro _)
  k_with "call ref" => (k_here; (with_reducible show wpAny _ _ (call (Value.ref 117) [Value.str _ _]) _ _ _); k_dflt (refine' TClaim.use (fspath_C _ _ _ _ _ _ _) ?k1 ?k2 ?k3 ?k4 ?k5 ?k6 ?k7 ?k8 ?_; (case k1 => k_asm); (case k2 => k_asm); (case k3 => k_asm); (case k4 => k_asm); (case k5 => k_asm); (case k6 => first | exact rfl | assumption); (case k7 => ktr_room); (case k8 => ktr_units); k_whole); (intro _ _ _ _); (try k_sweep))
  k_with "call ref" => ((k_here; (with_reducible show wpAny _ _ (call (Value.ref 145) [Value.str _ _]) _ _ _); k_dflt (refine' TClaim.use (splitroot_C _ _ _ _ _ _ _ (by kt_len)) ?k1 ?k2 ?k3 ?k4 ?k5 ?k6 ?k7 ?k8 ?_; (case k1 => k_asm); (case k2 => k_asm); (case k3 => k_asm); (case k4 => k_asm); (case k5 => k_asm); (case k6 => first | exact rfl | assumption); (case k7 => ktr_room); (case k8 => ktr_units); k_whole); (intro _ _ _ _ _ _ _ _ e1 e2 _ _ l1 _); (try k_lt l1); (subst e1 e2); (try k_sweep)); (try (revert l1; intro _)))
  k_with "call builtin:str.split" => ((k_here; (with_reducible show wpAny _ _ (call (Value.builtin "str.split") [Value.str _ _, Value.str (PySem.Str.ofString "/") _]) _ _ _); (refine KSpl.split1 (by k_asm) (by k_asm) (by decide) ?_ (by rw [PySem.sizeLine_eq]; omega)); (intro _ _ _ _ _ _ _ _ l1); (try k_lt l1)); (try (revert l1; intro _)))
  k_with "call builtin:list.append" => (k_here; (with_reducible show wpAny _ _ (call (Value.builtin _) [Value.ref _, _]) _ _ _); k_dflt (refine' append_L ?k1 ?k2 ?k3 ?z ?_; (case k1 => k_asm); (case k2 => k_asm); (case k3 => k_upd); (case z => with_reducible assumption); k_whole); intro _ _ _; (try k_sweep))
  k_with "call builtin:list.pop" => (k_here; k_dflt (refine' pop_snoc ?k1 ?k2 ?k3 ?z ?_; (case k1 => k_asm); (case k2 => k_asm); (case k3 => k_upd); (case z => with_reducible assumption); k_whole); intro _ _ _; (try k_sweep))
  k_with "subscriptTail Name UnaryOp ref int" => (k_here; (with_reducible show wpAny _ _ (subscriptTail _ _ (Value.ref _) (Value.int _ _)) _ _ _); (with_unfolding_all refine' last_snoc ?k1 ?k2 ?_ ?k3 ?k4; (case k1 => k_asm); (case k2 => k_mem); (case k3 => with_unfolding_all rfl); (case k4 => (intro _; with_unfolding_all rfl)); k_whole))
  k_with "truthy ref" => (k_here; (with_reducible show wpAny _ _ (truthy (Value.ref _)) _ _ _); k_dflt (refine' truthy_strs ?k1 ?k2 ?k3 ?k4 ?g0 ?g1; (case k1 => k_asm); (case k2 => k_mem); (case k3 => with_reducible assumption); (case k4 => with_reducible assumption)); (case' g0 => (intro e1 _; subst e1)); (case' g1 => (intro _ _ _ _ e1 _ _; subst e1)))
  k_with "truthy ref" => (k_here; (with_reducible show wpAny _ _ (truthy (Value.ref _)) _ _ _); k_dflt (refine' truthy_snoc ?k1 ?k2 ?k4 ?_; (case k1 => k_asm); (case k2 => k_mem); (case k4 => with_reducible assumption); k_whole))
  k_with "TPost" => (dsimp only [TPost])
  trivial
theorem lines_66 : True := by
  k_with "truthy str" => (k_here; (with_reducible show wpAny _ _ (PySem.truthy (Value.str _ _)) _ _ _); (refine' KXt.truthy_pos ?kxta ?kxtb ?kxtc ?_; (case kxta => with_reducible assumption); (case kxtb => with_reducible assumption); (case kxtc => exact Nat.le_of_ble_eq_true rfl)); intro _)
  k_with "call builtin:str.join" => (k_here; (with_reducible show wpAny _ _ (call (Value.builtin "str.join") [Value.str _ _, Value.ref _]) _ _ _); k_dflt (refine' join_listC ?k1 ?k2 ?k3 ?k4 ?_; (case k1 => exact News.isList (by k_asm) (by k_mem)); (case k2 => with_reducible assumption); (case k3 => decide); (case k4 => with_reducible assumption); k_whole); intro _ _)
  k_with "binaryOp Add str str" => (k_here; (with_reducible show wpAny _ _ (binaryOp Operator.Add (Value.str _ _) (Value.str _ _)) _ _ _); (refine' PyProof.Rows.add_str ?_ ?z; (case z => with_reducible assumption)); intro _ _)
  k_with "MY enter" => (refine' code_def ?k1 ?k2 ?k3 ?k4 ?k5 ?kA ?kF ?kK ?k6 ?k7 ?k8 ?k9 ?kB ?_ ?c2 ?c3 ?c4 ?c5; (case kA => exact rfl); (case kF => exact rfl); (case kK => first | assumption | exact rfl); (case k1 => k_asm); (case k2 => k_asm); (case k3 => k_asm); (case k4 => k_asm); (case k5 => k_asm); (case k6 => k_is); (case k7 => k_is); (case k8 => ktr_room); (case k9 => first | exact BindsTo.of_eq rfl | exact binds_K (by k_in) rfl (by k_is) rfl rfl rfl); (case c5 => decide); (case kB => exact locs rfl); (case c2 => exact rfl); (case c3 => exact rfl); (case c4 => exact rfl); k_whole; intro _ _ _ _ _ _ _ _ _; (try dsimp only); (try k_fold))
  k_with "compareOp Is" => (k_here; (with_reducible show wpAny _ _ (compareOp CmpOp.Is (Value.str _ _) (Value.ref _)) _ _ _); refine wpAny_is_other (by rfl) (by intro x; cases x) ?_)
  k_with "exec For Name Name cons nil" => (k_here; (with_unfolding_all refine' For_turns (by k_asm) ?_; k_whole))
  trivial
theorem lines_67 : True := by
  k_with "exec If" => (k_here; refine wpAny_If ?_)
  k_with "CompSrc" => (k_here; (with_reducible show LCg.CompSrc _ _ _ _ _ _ _ _ _ _ _ _ _ _); refine heldC ?_)
  k_with "call ref" => (k_here; (with_reducible show wpAny _ _ (call (Value.ref 874) [Value.int _ _]) _ _ _); k_dflt (refine' TClaim.use (lw_C _ _ _ _ _ _ _) ?k1 ?k2 ?k3 ?k4 ?k5 ?k6 ?k7 ?k8 ?_; (case k1 => k_asm); (case k2 => k_asm); (case k3 => k_asm); (case k4 => k_asm); (case k5 => k_asm); (case k6 => first | exact rfl | assumption); (case k7 => ktr_room); (case k8 => ktr_units); k_whole); (intro _ _ _ _ _); (try k_sweep))
  k_with "binaryOp Add ref ref" => ((k_here; (refine' concat_G (zs := [_, _, _, _, _]) ?k1 ?k2 ?k3 ?k4 ?kz ?_; (case k1 => k_asm); (case k2 => k_asm); (case k3 => k_mem); (case k4 => k_mem); (case kz => (rw [PySem.sizeLine_eq]; simp only [List.length_cons, List.length_nil]; omega)); k_whole); (intro _ _ _ _ l1); (try k_lt l1); (try k_sweep)); (try (revert l1; intro _)))
  k_with "call ref" => (k_here; (with_reducible show wpAny _ _ (call (Value.ref 881) [Value.ref _]) _ _ _); refine heldC ?_)
  k_with "call ref" => (k_here; (with_reducible show wpAny _ _ (call (Value.ref 861) [Value.str _ _]) _ _ _); refine heldC ?_)
  trivial
theorem four_sz : 4 ≤ sizeLine := by rw [PySem.sizeLine_eq]; decide
theorem led_cut {g h : Heap} {L : Addr} {a b j1 j2 j3 : Addr × Obj} {r : List (Addr × Obj)} (N : News g L h (a :: b :: j1 :: j2 :: j3 :: r)) : News g L h (a :: b :: r) := fun p hp => N p (by
  rcases List.mem_cons.mp hp with rfl | hp
  · exact .head _
  · rcases List.mem_cons.mp hp with rfl | hp
    · exact .tail _ (.head _)
    · exact .tail _ (.tail _ (.tail _ (.tail _ (.tail _ hp)))))
theorem law_walk : PySem.Challenge.rw_pd0120_01.Holds := hd (by
  k_go0
  all_goals try k_fold
  k_steps
  refine ⟨?_⟩
  rename_i FF NN hI hC hL l1
  have hT : (List.take 4 _).length ≤ 4 := Nat.le_trans (Nat.le_of_eq hC) (Nat.min_le_left _ _)
  k_dflt (refine LCg.CompSrc.ledger (by rfl) (by k_asm) (by k_asm) (.head _) (by rw [List.size_toArray, IntsAre.length hI]; exact Nat.le_trans hT four_sz) ?_)
  intro g'
  refine' kct_list wordF hI (fun k' t' I' oI' C' oC' D' m' ys' h' tk' E' hk' hC' hx' F' N' off' ne' hMark' => ?_) ?_
  · (try simp only [LCg.Off3, and_true] at off')
    obtain ⟨⟨_, _, _⟩, ⟨_, _, _⟩, ⟨_, _, _⟩, _, _, _⟩ := id off'
    obtain ⟨_, _, _⟩ := id ne'
    k_steps
  · unfold KPfDone
    intro ys hCa hLa
    have hy4 : ys.length ≤ 4 := by rw [CarriedAll.length_eq hCa, List.length_map]; exact hT
    have hs3 := takes hCa
    k_steps
    refine ⟨?_⟩
    refine' TClaim.use (pl_C _ _ _ _ _ _ _ _ (WORDS _) (strs_app hs3 five) ?hN ?hxl ?hxe) ?k1 ?k2 ?k3 ?k4 ?k5 ?k6 ?k7 ?k8 ?_
    (case k1 => k_asm)
    (case k2 => k_asm)
    (case k3 => k_asm)
    (case k4 => k_asm)
    (case k5 => k_asm)
    (case k6 => first | exact rfl | assumption)
    (case k7 => ktr_room)
    (case k8 => ktr_units)
    (case hxl => exact words_count _)
    (case hxe => exact words_len _)
    (case hN => exact allLt_mem (by simp only [AllLt, and_true]; assumption))
    intro Pl pv pn h1 tk1 hpv F1 N1 l1
    k_lt l1
    obtain ⟨m, Fm⟩ : ∃ m, Fr _ _ h1 m := ⟨_, F1⟩
    clear F1
    have N2 := led_cut N1
    clear N1
    (try k_sweep)
    rename CellsAre _ _ _ => zz; clear zz
    rename Dflts _ _ _ _ _ _ => zz; clear zz
    walk1
    k_sweep
    dsimp only
    refine' st_tail _ _ _ _ _ _ _ _ _ _ _ _ _ _ _ _ _ _ _ _ _ ?B ?X ?T ?F ?N ?d1 ?d2 ?d3 (strs_app hs3 five) hpv ?o1 ?o2 _ _ ?hq
    (case F => k_asm)
    (case N => k_asm)
    (case B => k_asm)
    (case X => k_asm)
    (case T => k_asm)
    (case d1 => assumption)
    (case d2 => assumption)
    (case d3 => assumption)
    (case o1 => omega)
    (case o2 => exact l1.1)
    intro h9 tk9 F9
    dsimp only
    k_steps)
end LT5_

end Mine
set_option maxRecDepth 100000 in
set_option maxHeartbeats 8000000 in
theorem PySem.Challenge.cw_pd0120_01_holds : PySem.Challenge.rw_pd0120_01.Holds := by
  exact Mine.law_walk
